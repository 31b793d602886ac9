import JvmDerived
import JvmDerived.Pilot.@@N@@Statement
import JvmDerived.Pilot.@@N@@Code
set_option linter.unusedVariables false
set_option linter.unusedSimpArgs false
namespace Jvm.WpK
open Sem ClassFile Op Lib Jvm.Stand Jvm.Free Jvm.LawKit Jvm.RoadKit
/-- the run's own unknowns: program, environment, the invocation's state, method, arguments, frames below, the method's record, its code -/
abbrev Cx : Type := Program × Env × State × MethodId × Array Value × List Frame × Method × Code
/-- a decoded instruction and the pc behind it -/
def Fet (code : ByteArray) (pc pc' : Nat) (i : Instr) (len : Nat) : Prop := decode code pc = .ok (i, len) ∧ pc + len = pc'
/-- a decoded branch: the pc behind it and its target -/
def Brn (code : ByteArray) (pc pcN pcT : Nat) (i : Instr) (o : Int) : Prop := decode code pc = .ok (i, 3) ∧ pc + 3 = pcN ∧ 0 ≤ (pc : Int) + o ∧ ((pc : Int) + o).toNat = pcT
/-- what is known of the body that is walked -/
def Ok (Z : State) (K : Cx) (code : ByteArray) (own nm : String) (maxL : Nat) (ret : Option FieldType) : Prop :=
  match K with
  | (p, _, s, m, _, _, meth, c) => p.tables.exec = Jvm.exec ∧ c.code = code ∧ Z.Warmed39 s.vm ∧ s.vm.findClass own = some m.cls ∧ meth.name = nm ∧ c.maxLocals = maxL ∧ meth.sig.returnType = ret ∧ meth.locks = false
/-- from this point (heap h, k cells and n slots made so far) the body ends in Q, having written nothing below n0 -/
def Wp (l : Launch) (R : Room) (n0 : Nat) (K : Cx) (Q : Option Value → Heap → Prop) (h : Heap) (k n : Nat) (pc : Nat) (Ls : Array Slot) (st : List Value) : Prop :=
  match K with
  | (p, e, s, m, args, below, meth, c) => ∀ (T : State) (locs : List Loc), Stand p l e R s m args below meth c T locs k n → T.heap = h → Fr n0 locs →
      ∃ s₂ o, Steps p.tables e below (T.setTop (mkF m pc Ls st)) s₂ ∧ s₂.status = .running ∧ Ended s₂ below o ∧ ∃ v L, o = .returned v ∧ (Q v s₂.heap ∧ Fr n0 L) ∧ FrameEnd s o s₂ L R.cells R.slots
/-- a body's contract at one call -/
def Con (l : Launch) (Z : State) (n0 : Nat) (y : MethodName) (bytes : ByteArray) (maxL : Nat) (ret : Option FieldType) (ws : List Cond) (rm : Room) (as : Array Value) (h : Heap) (Q : Option Value → Heap → Prop) : Prop :=
  MetFree l y (head1 (Cond.code y bytes maxL ret :: ws) rm) (fun a U => a = as ∧ Z.Warmed39 U.vm ∧ U.heap = h) (fun _ _ _ _ _ => True) (fun _ U o U' => ∃ v L, o = .returned v ∧ (Q v U'.heap ∧ Fr n0 L) ∧ FrameEnd U o U' L rm.cells rm.slots)
abbrev ConV (l : Launch) (Z : State) (n0 : Nat) (y : MethodName) (bytes : ByteArray) (maxL : Nat) (ret : Option FieldType) (ws : List Cond) (rm : Room) (as : Array Value) (h : Heap) (Q : Value → Heap → Prop) : Prop :=
  Con l Z n0 y bytes maxL ret ws rm as h (fun v h' => ∃ w, v = some w ∧ Q w h')
abbrev ConN (l : Launch) (Z : State) (n0 : Nat) (y : MethodName) (bytes : ByteArray) (maxL : Nat) (ret : Option FieldType) (ws : List Cond) (rm : Room) (as : Array Value) (h : Heap) (Q : Heap → Prop) : Prop :=
  Con l Z n0 y bytes maxL ret ws rm as h (fun v h' => v = none ∧ Q h')
theorem con_of_wp {l : Launch} {Z : State} {n0 : Nat} {y : MethodName} {bytes : ByteArray} {maxL : Nat} {ret : Option FieldType} {ws : List Cond} {rm : Room} {as : Array Value} {h : Heap} {Q : Option Value → Heap → Prop} {Ls : Array Slot}
    (hpl : plainFor y = true) (hef : ∀ m, entryFrame m as maxL = mkF m 0 Ls []) (H : ∀ K, Ok Z K bytes y.cls y.name maxL ret → Wp l rm n0 K Q h 0 0 0 Ls []) : Con l Z n0 y bytes maxL ret ws rm as h Q := by
  refine MetFree.of_bodySF hpl hisR ?_
  intro p e s m args below meth c s₁ Bd hml0 hP hK
  obtain ⟨rfl, hZ, hh⟩ := hP
  have X0 : Stand p l e rm s m args below meth c s₁ [] 0 0 := Stand.of_body Bd
  have e0 : s₁.heap = h := by rw [← hh, Bd.state]; rfl
  obtain ⟨s₂, o, h1, h2, h3, h4⟩ := H (p, e, s, m, args, below, meth, c) ⟨Bd.exec, Bd.bytes, hZ, findClass_of_methodNamed Bd.named, (name_of_methodNamed Bd.named Bd.method).1, hml0, Bd.returns, Bd.notSynchronized⟩ s₁ [] X0 e0 (Fr.nil n0)
  exact ⟨s₂, o, castTop (hef m) h1, h2, h3, h4⟩
section Rules
variable {l : Launch} {R : Room} {n0 : Nat} {K : Cx} {Q : Option Value → Heap → Prop} {h : Heap} {k n k' n' : Nat} {pc pc' : Nat} {Ls Ls' : Array Slot} {st rest : List Value} {Z : State} {code : ByteArray} {own nm : String} {maxL : Nat} {ret : Option FieldType} {a0 : Array Value}
theorem w_cast {pc1 : Nat} {L1 : Array Slot} {s1 : List Value} (hr : Wp l R n0 K Q h k n pc1 L1 s1) (q1 : pc1 = pc) (q2 : L1 = Ls) (q3 : s1 = st) : Wp l R n0 K Q h k n pc Ls st := by
  subst q1 q2 q3; exact hr
theorem w_mono {Q' : Option Value → Heap → Prop} (hr : Wp l R n0 K Q' h k n pc Ls st) (hq : ∀ v h', Q' v h' → Q v h') : Wp l R n0 K Q h k n pc Ls st := by
  obtain ⟨p, e, s, m, args, below, meth, c⟩ := K
  intro T locs X hT hF
  obtain ⟨s₂, o, h1, h2, h3, v, L, h4, ⟨h5, h6⟩, h7⟩ := hr T locs X hT hF
  exact ⟨s₂, o, h1, h2, h3, v, L, h4, ⟨hq _ _ h5, h6⟩, h7⟩
theorem w_int {a b : Int32} (e : a = b) (hr : Wp l R n0 K Q h k n pc Ls (.int b :: st)) : Wp l R n0 K Q h k n pc Ls (.int a :: st) := e ▸ hr
theorem w_long {a b : Int64} (e : a = b) (hr : Wp l R n0 K Q h k n pc Ls (.long b :: st)) : Wp l R n0 K Q h k n pc Ls (.long a :: st) := e ▸ hr
/-- more cells or slots may be booked -/
theorem w_more {k1 n1 : Nat} (hr : Wp l R n0 K Q h k1 n1 pc Ls st) (hk : k ≤ k1) (hn : n ≤ n1) : Wp l R n0 K Q h k n pc Ls st := by
  obtain ⟨p, e, s, m, args, below, meth, c⟩ := K
  intro T locs X hT hF
  exact hr T locs (X.more hk hn) hT hF

theorem w_iloadN (ok : Ok Z K code own nm maxL ret) {j : Fin 4} {x : Int32} (hd : Fet code pc pc' (.iload_n j) 1) (hl : Ls[j.val]? = some (.val (.int x))) (hr : Wp l R n0 K Q h k n pc' Ls (.int x :: st)) : Wp l R n0 K Q h k n pc Ls st := by
  obtain ⟨p, e, s, m, args, below, meth, c⟩ := K
  obtain ⟨hx, hby, hZ, hown, hnm, hml, hret, hlk⟩ := ok
  obtain ⟨hd, rfl⟩ := hd
  intro T locs X hT hF
  obtain ⟨s₂, o, h1, h2⟩ := hr T locs X hT hF
  exact ⟨s₂, o, XS.iloadN X.here hx rfl (hb hby hd) hl h1, h2⟩
theorem w_iload (ok : Ok Z K code own nm maxL ret) {j : Nat} {x : Int32} (hd : Fet code pc pc' (.iload j) 2) (hl : Ls[j]? = some (.val (.int x))) (hr : Wp l R n0 K Q h k n pc' Ls (.int x :: st)) : Wp l R n0 K Q h k n pc Ls st := by
  obtain ⟨p, e, s, m, args, below, meth, c⟩ := K
  obtain ⟨hx, hby, hZ, hown, hnm, hml, hret, hlk⟩ := ok
  obtain ⟨hd, rfl⟩ := hd
  intro T locs X hT hF
  obtain ⟨s₂, o, h1, h2⟩ := hr T locs X hT hF
  exact ⟨s₂, o, XS.iload X.here hx rfl (hb hby hd) hl h1, h2⟩
theorem w_lloadN (ok : Ok Z K code own nm maxL ret) {j : Fin 4} {x : Int64} (hd : Fet code pc pc' (.lload_n j) 1) (hl : Ls[j.val]? = some (.val (.long x))) (hr : Wp l R n0 K Q h k n pc' Ls (.long x :: st)) : Wp l R n0 K Q h k n pc Ls st := by
  obtain ⟨p, e, s, m, args, below, meth, c⟩ := K
  obtain ⟨hx, hby, hZ, hown, hnm, hml, hret, hlk⟩ := ok
  obtain ⟨hd, rfl⟩ := hd
  intro T locs X hT hF
  obtain ⟨s₂, o, h1, h2⟩ := hr T locs X hT hF
  exact ⟨s₂, o, XS.lloadN X.here hx rfl (hb hby hd) hl h1, h2⟩
theorem w_lload (ok : Ok Z K code own nm maxL ret) {j : Nat} {x : Int64} (hd : Fet code pc pc' (.lload j) 2) (hl : Ls[j]? = some (.val (.long x))) (hr : Wp l R n0 K Q h k n pc' Ls (.long x :: st)) : Wp l R n0 K Q h k n pc Ls st := by
  obtain ⟨p, e, s, m, args, below, meth, c⟩ := K
  obtain ⟨hx, hby, hZ, hown, hnm, hml, hret, hlk⟩ := ok
  obtain ⟨hd, rfl⟩ := hd
  intro T locs X hT hF
  obtain ⟨s₂, o, h1, h2⟩ := hr T locs X hT hF
  exact ⟨s₂, o, XS.lload X.here hx rfl (hb hby hd) hl h1, h2⟩
theorem w_aloadN (ok : Ok Z K code own nm maxL ret) {j : Fin 4} {x : Value} (hd : Fet code pc pc' (.aload_n j) 1) (hl : Ls[j.val]? = some (.val x)) (hv : x.isRef = true) (hr : Wp l R n0 K Q h k n pc' Ls (x :: st)) : Wp l R n0 K Q h k n pc Ls st := by
  obtain ⟨p, e, s, m, args, below, meth, c⟩ := K
  obtain ⟨hx, hby, hZ, hown, hnm, hml, hret, hlk⟩ := ok
  obtain ⟨hd, rfl⟩ := hd
  intro T locs X hT hF
  obtain ⟨s₂, o, h1, h2⟩ := hr T locs X hT hF
  exact ⟨s₂, o, XS.aloadN X.here hx rfl (hb hby hd) hl hv h1, h2⟩
theorem w_aload (ok : Ok Z K code own nm maxL ret) {j : Nat} {x : Value} (hd : Fet code pc pc' (.aload j) 2) (hl : Ls[j]? = some (.val x)) (hv : x.isRef = true) (hr : Wp l R n0 K Q h k n pc' Ls (x :: st)) : Wp l R n0 K Q h k n pc Ls st := by
  obtain ⟨p, e, s, m, args, below, meth, c⟩ := K
  obtain ⟨hx, hby, hZ, hown, hnm, hml, hret, hlk⟩ := ok
  obtain ⟨hd, rfl⟩ := hd
  intro T locs X hT hF
  obtain ⟨s₂, o, h1, h2⟩ := hr T locs X hT hF
  exact ⟨s₂, o, XS.aload X.here hx rfl (hb hby hd) hl hv h1, h2⟩
theorem w_istoreN (ok : Ok Z K code own nm maxL ret) {j : Fin 4} {x : Int32} (hd : Fet code pc pc' (.istore_n j) 1) (hl : storeLocals Ls j.val (.int x) = some Ls') (hr : Wp l R n0 K Q h k n pc' Ls' st) : Wp l R n0 K Q h k n pc Ls (.int x :: st) := by
  obtain ⟨p, e, s, m, args, below, meth, c⟩ := K
  obtain ⟨hx, hby, hZ, hown, hnm, hml, hret, hlk⟩ := ok
  obtain ⟨hd, rfl⟩ := hd
  intro T locs X hT hF
  obtain ⟨s₂, o, h1, h2⟩ := hr T locs X hT hF
  exact ⟨s₂, o, XS.istoreN X.here hx rfl (hb hby hd) rfl hl h1, h2⟩
theorem w_istore (ok : Ok Z K code own nm maxL ret) {j : Nat} {x : Int32} (hd : Fet code pc pc' (.istore j) 2) (hl : storeLocals Ls j (.int x) = some Ls') (hr : Wp l R n0 K Q h k n pc' Ls' st) : Wp l R n0 K Q h k n pc Ls (.int x :: st) := by
  obtain ⟨p, e, s, m, args, below, meth, c⟩ := K
  obtain ⟨hx, hby, hZ, hown, hnm, hml, hret, hlk⟩ := ok
  obtain ⟨hd, rfl⟩ := hd
  intro T locs X hT hF
  obtain ⟨s₂, o, h1, h2⟩ := hr T locs X hT hF
  exact ⟨s₂, o, XS.istore X.here hx rfl (hb hby hd) rfl hl h1, h2⟩
theorem w_lstoreN (ok : Ok Z K code own nm maxL ret) {j : Fin 4} {x : Int64} (hd : Fet code pc pc' (.lstore_n j) 1) (hl : storeLocals Ls j.val (.long x) = some Ls') (hr : Wp l R n0 K Q h k n pc' Ls' st) : Wp l R n0 K Q h k n pc Ls (.long x :: st) := by
  obtain ⟨p, e, s, m, args, below, meth, c⟩ := K
  obtain ⟨hx, hby, hZ, hown, hnm, hml, hret, hlk⟩ := ok
  obtain ⟨hd, rfl⟩ := hd
  intro T locs X hT hF
  obtain ⟨s₂, o, h1, h2⟩ := hr T locs X hT hF
  exact ⟨s₂, o, XS.lstoreN X.here hx rfl (hb hby hd) rfl hl h1, h2⟩
theorem w_lstore (ok : Ok Z K code own nm maxL ret) {j : Nat} {x : Int64} (hd : Fet code pc pc' (.lstore j) 2) (hl : storeLocals Ls j (.long x) = some Ls') (hr : Wp l R n0 K Q h k n pc' Ls' st) : Wp l R n0 K Q h k n pc Ls (.long x :: st) := by
  obtain ⟨p, e, s, m, args, below, meth, c⟩ := K
  obtain ⟨hx, hby, hZ, hown, hnm, hml, hret, hlk⟩ := ok
  obtain ⟨hd, rfl⟩ := hd
  intro T locs X hT hF
  obtain ⟨s₂, o, h1, h2⟩ := hr T locs X hT hF
  exact ⟨s₂, o, XS.lstore X.here hx rfl (hb hby hd) rfl hl h1, h2⟩
theorem w_astoreN (ok : Ok Z K code own nm maxL ret) {j : Fin 4} {x : Value} (hd : Fet code pc pc' (.astore_n j) 1) (hl : storeLocals Ls j.val x = some Ls') (hv : x.isRef = true) (hr : Wp l R n0 K Q h k n pc' Ls' st) : Wp l R n0 K Q h k n pc Ls (x :: st) := by
  obtain ⟨p, e, s, m, args, below, meth, c⟩ := K
  obtain ⟨hx, hby, hZ, hown, hnm, hml, hret, hlk⟩ := ok
  obtain ⟨hd, rfl⟩ := hd
  intro T locs X hT hF
  obtain ⟨s₂, o, h1, h2⟩ := hr T locs X hT hF
  exact ⟨s₂, o, XS.astoreN X.here hx rfl (hb hby hd) rfl hv hl h1, h2⟩
theorem w_astore (ok : Ok Z K code own nm maxL ret) {j : Nat} {x : Value} (hd : Fet code pc pc' (.astore j) 2) (hl : storeLocals Ls j x = some Ls') (hv : x.isRef = true) (hr : Wp l R n0 K Q h k n pc' Ls' st) : Wp l R n0 K Q h k n pc Ls (x :: st) := by
  obtain ⟨p, e, s, m, args, below, meth, c⟩ := K
  obtain ⟨hx, hby, hZ, hown, hnm, hml, hret, hlk⟩ := ok
  obtain ⟨hd, rfl⟩ := hd
  intro T locs X hT hF
  obtain ⟨s₂, o, h1, h2⟩ := hr T locs X hT hF
  exact ⟨s₂, o, XS.astore X.here hx rfl (hb hby hd) rfl hv hl h1, h2⟩
theorem w_iinc (ok : Ok Z K code own nm maxL ret) {j : Nat} {cst : Int} {x : Int32} (hd : Fet code pc pc' (.iinc j cst) 3) (hl : Ls[j]? = some (.val (.int x))) (hl' : storeLocals Ls j (.int (x + Int32.ofInt cst)) = some Ls') (hr : Wp l R n0 K Q h k n pc' Ls' st) : Wp l R n0 K Q h k n pc Ls st := by
  obtain ⟨p, e, s, m, args, below, meth, c⟩ := K
  obtain ⟨hx, hby, hZ, hown, hnm, hml, hret, hlk⟩ := ok
  obtain ⟨hd, rfl⟩ := hd
  intro T locs X hT hF
  obtain ⟨s₂, o, h1, h2⟩ := hr T locs X hT hF
  exact ⟨s₂, o, XS.iinc X.here hx rfl (hb hby hd) hl hl' h1, h2⟩
theorem w_iconst (ok : Ok Z K code own nm maxL ret) {i : Int} {z : Int32} (hd : Fet code pc pc' (.iconst i) 1) (hz : Int32.ofInt i = z) (hr : Wp l R n0 K Q h k n pc' Ls (.int z :: st)) : Wp l R n0 K Q h k n pc Ls st := by
  obtain ⟨p, e, s, m, args, below, meth, c⟩ := K
  obtain ⟨hx, hby, hZ, hown, hnm, hml, hret, hlk⟩ := ok
  obtain ⟨hd, rfl⟩ := hd
  intro T locs X hT hF
  subst hz
  obtain ⟨s₂, o, h1, h2⟩ := hr T locs X hT hF
  exact ⟨s₂, o, XS.iconst X.here hx rfl (hb hby hd) h1, h2⟩
theorem w_bipush (ok : Ok Z K code own nm maxL ret) {i : Int} {z : Int32} (hd : Fet code pc pc' (.bipush i) 2) (hz : (Int8.ofInt i).toInt32 = z) (hr : Wp l R n0 K Q h k n pc' Ls (.int z :: st)) : Wp l R n0 K Q h k n pc Ls st := by
  obtain ⟨p, e, s, m, args, below, meth, c⟩ := K
  obtain ⟨hx, hby, hZ, hown, hnm, hml, hret, hlk⟩ := ok
  obtain ⟨hd, rfl⟩ := hd
  intro T locs X hT hF
  subst hz
  obtain ⟨s₂, o, h1, h2⟩ := hr T locs X hT hF
  exact ⟨s₂, o, XS.bipush X.here hx rfl (hb hby hd) h1, h2⟩
theorem w_sipush (ok : Ok Z K code own nm maxL ret) {i : Int} {z : Int32} (hd : Fet code pc pc' (.sipush i) 3) (hz : (Int16.ofInt i).toInt32 = z) (hr : Wp l R n0 K Q h k n pc' Ls (.int z :: st)) : Wp l R n0 K Q h k n pc Ls st := by
  obtain ⟨p, e, s, m, args, below, meth, c⟩ := K
  obtain ⟨hx, hby, hZ, hown, hnm, hml, hret, hlk⟩ := ok
  obtain ⟨hd, rfl⟩ := hd
  intro T locs X hT hF
  subst hz
  obtain ⟨s₂, o, h1, h2⟩ := hr T locs X hT hF
  exact ⟨s₂, o, XS.sipush X.here hx rfl (hb hby hd) h1, h2⟩
theorem w_lconst (ok : Ok Z K code own nm maxL ret) {i : Fin 2} {z : Int64} (hd : Fet code pc pc' (.lconst i) 1) (hz : Int64.ofNat i = z) (hr : Wp l R n0 K Q h k n pc' Ls (.long z :: st)) : Wp l R n0 K Q h k n pc Ls st := by
  obtain ⟨p, e, s, m, args, below, meth, c⟩ := K
  obtain ⟨hx, hby, hZ, hown, hnm, hml, hret, hlk⟩ := ok
  obtain ⟨hd, rfl⟩ := hd
  intro T locs X hT hF
  subst hz
  obtain ⟨s₂, o, h1, h2⟩ := hr T locs X hT hF
  exact ⟨s₂, o, XS.lconst X.here hx rfl (hb hby hd) h1, h2⟩
theorem w_aconstNull (ok : Ok Z K code own nm maxL ret)  (hd : Fet code pc pc' (.aconst_null) 1)  (hr : Wp l R n0 K Q h k n pc' Ls (.null :: st)) : Wp l R n0 K Q h k n pc Ls st := by
  obtain ⟨p, e, s, m, args, below, meth, c⟩ := K
  obtain ⟨hx, hby, hZ, hown, hnm, hml, hret, hlk⟩ := ok
  obtain ⟨hd, rfl⟩ := hd
  intro T locs X hT hF
  obtain ⟨s₂, o, h1, h2⟩ := hr T locs X hT hF
  exact ⟨s₂, o, XS.aconstNull X.here hx rfl (hb hby hd)  h1, h2⟩
theorem w_iadd (ok : Ok Z K code own nm maxL ret) {x y : Int32} (hd : Fet code pc pc' (.iadd) 1)  (hr : Wp l R n0 K Q h k n pc' Ls (.int (x + y) :: st)) : Wp l R n0 K Q h k n pc Ls (.int y :: .int x :: st) := by
  obtain ⟨p, e, s, m, args, below, meth, c⟩ := K
  obtain ⟨hx, hby, hZ, hown, hnm, hml, hret, hlk⟩ := ok
  obtain ⟨hd, rfl⟩ := hd
  intro T locs X hT hF
  obtain ⟨s₂, o, h1, h2⟩ := hr T locs X hT hF
  exact ⟨s₂, o, XS.iadd X.here hx rfl (hb hby hd) rfl h1, h2⟩
theorem w_isub (ok : Ok Z K code own nm maxL ret) {x y : Int32} (hd : Fet code pc pc' (.isub) 1)  (hr : Wp l R n0 K Q h k n pc' Ls (.int (x - y) :: st)) : Wp l R n0 K Q h k n pc Ls (.int y :: .int x :: st) := by
  obtain ⟨p, e, s, m, args, below, meth, c⟩ := K
  obtain ⟨hx, hby, hZ, hown, hnm, hml, hret, hlk⟩ := ok
  obtain ⟨hd, rfl⟩ := hd
  intro T locs X hT hF
  obtain ⟨s₂, o, h1, h2⟩ := hr T locs X hT hF
  exact ⟨s₂, o, XS.isub X.here hx rfl (hb hby hd) rfl h1, h2⟩
theorem w_imul (ok : Ok Z K code own nm maxL ret) {x y : Int32} (hd : Fet code pc pc' (.imul) 1)  (hr : Wp l R n0 K Q h k n pc' Ls (.int (x * y) :: st)) : Wp l R n0 K Q h k n pc Ls (.int y :: .int x :: st) := by
  obtain ⟨p, e, s, m, args, below, meth, c⟩ := K
  obtain ⟨hx, hby, hZ, hown, hnm, hml, hret, hlk⟩ := ok
  obtain ⟨hd, rfl⟩ := hd
  intro T locs X hT hF
  obtain ⟨s₂, o, h1, h2⟩ := hr T locs X hT hF
  exact ⟨s₂, o, XS.imul X.here hx rfl (hb hby hd) rfl h1, h2⟩
theorem w_iand (ok : Ok Z K code own nm maxL ret) {x y : Int32} (hd : Fet code pc pc' (.iand) 1)  (hr : Wp l R n0 K Q h k n pc' Ls (.int (x &&& y) :: st)) : Wp l R n0 K Q h k n pc Ls (.int y :: .int x :: st) := by
  obtain ⟨p, e, s, m, args, below, meth, c⟩ := K
  obtain ⟨hx, hby, hZ, hown, hnm, hml, hret, hlk⟩ := ok
  obtain ⟨hd, rfl⟩ := hd
  intro T locs X hT hF
  obtain ⟨s₂, o, h1, h2⟩ := hr T locs X hT hF
  exact ⟨s₂, o, XS.iand X.here hx rfl (hb hby hd) rfl h1, h2⟩
theorem w_ior (ok : Ok Z K code own nm maxL ret) {x y : Int32} (hd : Fet code pc pc' (.ior) 1)  (hr : Wp l R n0 K Q h k n pc' Ls (.int (x ||| y) :: st)) : Wp l R n0 K Q h k n pc Ls (.int y :: .int x :: st) := by
  obtain ⟨p, e, s, m, args, below, meth, c⟩ := K
  obtain ⟨hx, hby, hZ, hown, hnm, hml, hret, hlk⟩ := ok
  obtain ⟨hd, rfl⟩ := hd
  intro T locs X hT hF
  obtain ⟨s₂, o, h1, h2⟩ := hr T locs X hT hF
  exact ⟨s₂, o, XS.ior X.here hx rfl (hb hby hd) rfl h1, h2⟩
theorem w_ixor (ok : Ok Z K code own nm maxL ret) {x y : Int32} (hd : Fet code pc pc' (.ixor) 1)  (hr : Wp l R n0 K Q h k n pc' Ls (.int (x ^^^ y) :: st)) : Wp l R n0 K Q h k n pc Ls (.int y :: .int x :: st) := by
  obtain ⟨p, e, s, m, args, below, meth, c⟩ := K
  obtain ⟨hx, hby, hZ, hown, hnm, hml, hret, hlk⟩ := ok
  obtain ⟨hd, rfl⟩ := hd
  intro T locs X hT hF
  obtain ⟨s₂, o, h1, h2⟩ := hr T locs X hT hF
  exact ⟨s₂, o, XS.ixor X.here hx rfl (hb hby hd) rfl h1, h2⟩
theorem w_ladd (ok : Ok Z K code own nm maxL ret) {x y : Int64} (hd : Fet code pc pc' (.ladd) 1)  (hr : Wp l R n0 K Q h k n pc' Ls (.long (x + y) :: st)) : Wp l R n0 K Q h k n pc Ls (.long y :: .long x :: st) := by
  obtain ⟨p, e, s, m, args, below, meth, c⟩ := K
  obtain ⟨hx, hby, hZ, hown, hnm, hml, hret, hlk⟩ := ok
  obtain ⟨hd, rfl⟩ := hd
  intro T locs X hT hF
  obtain ⟨s₂, o, h1, h2⟩ := hr T locs X hT hF
  exact ⟨s₂, o, XS.ladd X.here hx rfl (hb hby hd) rfl h1, h2⟩
theorem w_lsub (ok : Ok Z K code own nm maxL ret) {x y : Int64} (hd : Fet code pc pc' (.lsub) 1)  (hr : Wp l R n0 K Q h k n pc' Ls (.long (x - y) :: st)) : Wp l R n0 K Q h k n pc Ls (.long y :: .long x :: st) := by
  obtain ⟨p, e, s, m, args, below, meth, c⟩ := K
  obtain ⟨hx, hby, hZ, hown, hnm, hml, hret, hlk⟩ := ok
  obtain ⟨hd, rfl⟩ := hd
  intro T locs X hT hF
  obtain ⟨s₂, o, h1, h2⟩ := hr T locs X hT hF
  exact ⟨s₂, o, XS.lsub X.here hx rfl (hb hby hd) rfl h1, h2⟩
theorem w_lmul (ok : Ok Z K code own nm maxL ret) {x y : Int64} (hd : Fet code pc pc' (.lmul) 1)  (hr : Wp l R n0 K Q h k n pc' Ls (.long (x * y) :: st)) : Wp l R n0 K Q h k n pc Ls (.long y :: .long x :: st) := by
  obtain ⟨p, e, s, m, args, below, meth, c⟩ := K
  obtain ⟨hx, hby, hZ, hown, hnm, hml, hret, hlk⟩ := ok
  obtain ⟨hd, rfl⟩ := hd
  intro T locs X hT hF
  obtain ⟨s₂, o, h1, h2⟩ := hr T locs X hT hF
  exact ⟨s₂, o, XS.lmul X.here hx rfl (hb hby hd) rfl h1, h2⟩
theorem w_land (ok : Ok Z K code own nm maxL ret) {x y : Int64} (hd : Fet code pc pc' (.land) 1)  (hr : Wp l R n0 K Q h k n pc' Ls (.long (x &&& y) :: st)) : Wp l R n0 K Q h k n pc Ls (.long y :: .long x :: st) := by
  obtain ⟨p, e, s, m, args, below, meth, c⟩ := K
  obtain ⟨hx, hby, hZ, hown, hnm, hml, hret, hlk⟩ := ok
  obtain ⟨hd, rfl⟩ := hd
  intro T locs X hT hF
  obtain ⟨s₂, o, h1, h2⟩ := hr T locs X hT hF
  exact ⟨s₂, o, XS.land X.here hx rfl (hb hby hd) rfl h1, h2⟩
theorem w_lor (ok : Ok Z K code own nm maxL ret) {x y : Int64} (hd : Fet code pc pc' (.lor) 1)  (hr : Wp l R n0 K Q h k n pc' Ls (.long (x ||| y) :: st)) : Wp l R n0 K Q h k n pc Ls (.long y :: .long x :: st) := by
  obtain ⟨p, e, s, m, args, below, meth, c⟩ := K
  obtain ⟨hx, hby, hZ, hown, hnm, hml, hret, hlk⟩ := ok
  obtain ⟨hd, rfl⟩ := hd
  intro T locs X hT hF
  obtain ⟨s₂, o, h1, h2⟩ := hr T locs X hT hF
  exact ⟨s₂, o, XS.lor X.here hx rfl (hb hby hd) rfl h1, h2⟩
theorem w_lxor (ok : Ok Z K code own nm maxL ret) {x y : Int64} (hd : Fet code pc pc' (.lxor) 1)  (hr : Wp l R n0 K Q h k n pc' Ls (.long (x ^^^ y) :: st)) : Wp l R n0 K Q h k n pc Ls (.long y :: .long x :: st) := by
  obtain ⟨p, e, s, m, args, below, meth, c⟩ := K
  obtain ⟨hx, hby, hZ, hown, hnm, hml, hret, hlk⟩ := ok
  obtain ⟨hd, rfl⟩ := hd
  intro T locs X hT hF
  obtain ⟨s₂, o, h1, h2⟩ := hr T locs X hT hF
  exact ⟨s₂, o, XS.lxor X.here hx rfl (hb hby hd) rfl h1, h2⟩
theorem w_ishl (ok : Ok Z K code own nm maxL ret) {x y : Int32} (hd : Fet code pc pc' (.ishl) 1)  (hr : Wp l R n0 K Q h k n pc' Ls (.int (x <<< (y &&& 31)) :: st)) : Wp l R n0 K Q h k n pc Ls (.int y :: .int x :: st) := by
  obtain ⟨p, e, s, m, args, below, meth, c⟩ := K
  obtain ⟨hx, hby, hZ, hown, hnm, hml, hret, hlk⟩ := ok
  obtain ⟨hd, rfl⟩ := hd
  intro T locs X hT hF
  obtain ⟨s₂, o, h1, h2⟩ := hr T locs X hT hF
  exact ⟨s₂, o, XS.ishl X.here hx rfl (hb hby hd) rfl h1, h2⟩
theorem w_ishr (ok : Ok Z K code own nm maxL ret) {x y : Int32} (hd : Fet code pc pc' (.ishr) 1)  (hr : Wp l R n0 K Q h k n pc' Ls (.int (x >>> (y &&& 31)) :: st)) : Wp l R n0 K Q h k n pc Ls (.int y :: .int x :: st) := by
  obtain ⟨p, e, s, m, args, below, meth, c⟩ := K
  obtain ⟨hx, hby, hZ, hown, hnm, hml, hret, hlk⟩ := ok
  obtain ⟨hd, rfl⟩ := hd
  intro T locs X hT hF
  obtain ⟨s₂, o, h1, h2⟩ := hr T locs X hT hF
  exact ⟨s₂, o, XS.ishr X.here hx rfl (hb hby hd) rfl h1, h2⟩
theorem w_iushr (ok : Ok Z K code own nm maxL ret) {x y : Int32} (hd : Fet code pc pc' (.iushr) 1)  (hr : Wp l R n0 K Q h k n pc' Ls (.int ((x.toUInt32 >>> (y &&& 31).toUInt32).toInt32) :: st)) : Wp l R n0 K Q h k n pc Ls (.int y :: .int x :: st) := by
  obtain ⟨p, e, s, m, args, below, meth, c⟩ := K
  obtain ⟨hx, hby, hZ, hown, hnm, hml, hret, hlk⟩ := ok
  obtain ⟨hd, rfl⟩ := hd
  intro T locs X hT hF
  obtain ⟨s₂, o, h1, h2⟩ := hr T locs X hT hF
  exact ⟨s₂, o, XS.iushr X.here hx rfl (hb hby hd) rfl h1, h2⟩
theorem w_lshl (ok : Ok Z K code own nm maxL ret) {x : Int64} {y : Int32} (hd : Fet code pc pc' (.lshl) 1)  (hr : Wp l R n0 K Q h k n pc' Ls (.long (x <<< (y &&& 0x3f).toInt64) :: st)) : Wp l R n0 K Q h k n pc Ls (.int y :: .long x :: st) := by
  obtain ⟨p, e, s, m, args, below, meth, c⟩ := K
  obtain ⟨hx, hby, hZ, hown, hnm, hml, hret, hlk⟩ := ok
  obtain ⟨hd, rfl⟩ := hd
  intro T locs X hT hF
  obtain ⟨s₂, o, h1, h2⟩ := hr T locs X hT hF
  exact ⟨s₂, o, XS.lshl X.here hx rfl (hb hby hd) rfl h1, h2⟩
theorem w_lshr (ok : Ok Z K code own nm maxL ret) {x : Int64} {y : Int32} (hd : Fet code pc pc' (.lshr) 1)  (hr : Wp l R n0 K Q h k n pc' Ls (.long (x >>> (y &&& 0x3f).toInt64) :: st)) : Wp l R n0 K Q h k n pc Ls (.int y :: .long x :: st) := by
  obtain ⟨p, e, s, m, args, below, meth, c⟩ := K
  obtain ⟨hx, hby, hZ, hown, hnm, hml, hret, hlk⟩ := ok
  obtain ⟨hd, rfl⟩ := hd
  intro T locs X hT hF
  obtain ⟨s₂, o, h1, h2⟩ := hr T locs X hT hF
  exact ⟨s₂, o, XS.lshr X.here hx rfl (hb hby hd) rfl h1, h2⟩
theorem w_lushr (ok : Ok Z K code own nm maxL ret) {x : Int64} {y : Int32} (hd : Fet code pc pc' (.lushr) 1)  (hr : Wp l R n0 K Q h k n pc' Ls (.long ((x.toUInt64 >>> (y &&& 0x3f).toInt64.toUInt64).toInt64) :: st)) : Wp l R n0 K Q h k n pc Ls (.int y :: .long x :: st) := by
  obtain ⟨p, e, s, m, args, below, meth, c⟩ := K
  obtain ⟨hx, hby, hZ, hown, hnm, hml, hret, hlk⟩ := ok
  obtain ⟨hd, rfl⟩ := hd
  intro T locs X hT hF
  obtain ⟨s₂, o, h1, h2⟩ := hr T locs X hT hF
  exact ⟨s₂, o, XS.lushr X.here hx rfl (hb hby hd) rfl h1, h2⟩
theorem w_idiv (ok : Ok Z K code own nm maxL ret) {x y : Int32} (hd : Fet code pc pc' (.idiv) 1) (hy : y ≠ 0) (hr : Wp l R n0 K Q h k n pc' Ls (.int (x / y) :: st)) : Wp l R n0 K Q h k n pc Ls (.int y :: .int x :: st) := by
  obtain ⟨p, e, s, m, args, below, meth, c⟩ := K
  obtain ⟨hx, hby, hZ, hown, hnm, hml, hret, hlk⟩ := ok
  obtain ⟨hd, rfl⟩ := hd
  intro T locs X hT hF
  obtain ⟨s₂, o, h1, h2⟩ := hr T locs X hT hF
  exact ⟨s₂, o, XS.idiv X.here hx rfl (hb hby hd) rfl hy h1, h2⟩
theorem w_ldiv (ok : Ok Z K code own nm maxL ret) {x y : Int64} (hd : Fet code pc pc' (.ldiv) 1) (hy : y ≠ 0) (hr : Wp l R n0 K Q h k n pc' Ls (.long (x / y) :: st)) : Wp l R n0 K Q h k n pc Ls (.long y :: .long x :: st) := by
  obtain ⟨p, e, s, m, args, below, meth, c⟩ := K
  obtain ⟨hx, hby, hZ, hown, hnm, hml, hret, hlk⟩ := ok
  obtain ⟨hd, rfl⟩ := hd
  intro T locs X hT hF
  obtain ⟨s₂, o, h1, h2⟩ := hr T locs X hT hF
  exact ⟨s₂, o, XS.ldiv X.here hx rfl (hb hby hd) rfl hy h1, h2⟩
theorem w_ineg (ok : Ok Z K code own nm maxL ret) {x : Int32} (hd : Fet code pc pc' (.ineg) 1)  (hr : Wp l R n0 K Q h k n pc' Ls (.int (-x) :: st)) : Wp l R n0 K Q h k n pc Ls (.int x :: st) := by
  obtain ⟨p, e, s, m, args, below, meth, c⟩ := K
  obtain ⟨hx, hby, hZ, hown, hnm, hml, hret, hlk⟩ := ok
  obtain ⟨hd, rfl⟩ := hd
  intro T locs X hT hF
  obtain ⟨s₂, o, h1, h2⟩ := hr T locs X hT hF
  exact ⟨s₂, o, XS.ineg X.here hx rfl (hb hby hd) rfl h1, h2⟩
theorem w_lneg (ok : Ok Z K code own nm maxL ret) {x : Int64} (hd : Fet code pc pc' (.lneg) 1)  (hr : Wp l R n0 K Q h k n pc' Ls (.long (-x) :: st)) : Wp l R n0 K Q h k n pc Ls (.long x :: st) := by
  obtain ⟨p, e, s, m, args, below, meth, c⟩ := K
  obtain ⟨hx, hby, hZ, hown, hnm, hml, hret, hlk⟩ := ok
  obtain ⟨hd, rfl⟩ := hd
  intro T locs X hT hF
  obtain ⟨s₂, o, h1, h2⟩ := hr T locs X hT hF
  exact ⟨s₂, o, XS.lneg X.here hx rfl (hb hby hd) rfl h1, h2⟩
theorem w_i2l (ok : Ok Z K code own nm maxL ret) {x : Int32} (hd : Fet code pc pc' (.i2l) 1)  (hr : Wp l R n0 K Q h k n pc' Ls (.long x.toInt64 :: st)) : Wp l R n0 K Q h k n pc Ls (.int x :: st) := by
  obtain ⟨p, e, s, m, args, below, meth, c⟩ := K
  obtain ⟨hx, hby, hZ, hown, hnm, hml, hret, hlk⟩ := ok
  obtain ⟨hd, rfl⟩ := hd
  intro T locs X hT hF
  obtain ⟨s₂, o, h1, h2⟩ := hr T locs X hT hF
  exact ⟨s₂, o, XS.i2l X.here hx rfl (hb hby hd) rfl h1, h2⟩
theorem w_l2i (ok : Ok Z K code own nm maxL ret) {x : Int64} (hd : Fet code pc pc' (.l2i) 1)  (hr : Wp l R n0 K Q h k n pc' Ls (.int x.toInt32 :: st)) : Wp l R n0 K Q h k n pc Ls (.long x :: st) := by
  obtain ⟨p, e, s, m, args, below, meth, c⟩ := K
  obtain ⟨hx, hby, hZ, hown, hnm, hml, hret, hlk⟩ := ok
  obtain ⟨hd, rfl⟩ := hd
  intro T locs X hT hF
  obtain ⟨s₂, o, h1, h2⟩ := hr T locs X hT hF
  exact ⟨s₂, o, XS.l2i X.here hx rfl (hb hby hd) rfl h1, h2⟩
theorem w_i2b (ok : Ok Z K code own nm maxL ret) {x : Int32} (hd : Fet code pc pc' (.i2b) 1)  (hr : Wp l R n0 K Q h k n pc' Ls (.int x.toInt8.toInt32 :: st)) : Wp l R n0 K Q h k n pc Ls (.int x :: st) := by
  obtain ⟨p, e, s, m, args, below, meth, c⟩ := K
  obtain ⟨hx, hby, hZ, hown, hnm, hml, hret, hlk⟩ := ok
  obtain ⟨hd, rfl⟩ := hd
  intro T locs X hT hF
  obtain ⟨s₂, o, h1, h2⟩ := hr T locs X hT hF
  exact ⟨s₂, o, XS.i2b X.here hx rfl (hb hby hd) rfl h1, h2⟩
theorem w_i2s (ok : Ok Z K code own nm maxL ret) {x : Int32} (hd : Fet code pc pc' (.i2s) 1)  (hr : Wp l R n0 K Q h k n pc' Ls (.int x.toInt16.toInt32 :: st)) : Wp l R n0 K Q h k n pc Ls (.int x :: st) := by
  obtain ⟨p, e, s, m, args, below, meth, c⟩ := K
  obtain ⟨hx, hby, hZ, hown, hnm, hml, hret, hlk⟩ := ok
  obtain ⟨hd, rfl⟩ := hd
  intro T locs X hT hF
  obtain ⟨s₂, o, h1, h2⟩ := hr T locs X hT hF
  exact ⟨s₂, o, XS.i2s X.here hx rfl (hb hby hd) rfl h1, h2⟩
theorem w_i2c (ok : Ok Z K code own nm maxL ret) {x : Int32} (hd : Fet code pc pc' (.i2c) 1)  (hr : Wp l R n0 K Q h k n pc' Ls (.int x.toUInt32.toUInt16.toUInt32.toInt32 :: st)) : Wp l R n0 K Q h k n pc Ls (.int x :: st) := by
  obtain ⟨p, e, s, m, args, below, meth, c⟩ := K
  obtain ⟨hx, hby, hZ, hown, hnm, hml, hret, hlk⟩ := ok
  obtain ⟨hd, rfl⟩ := hd
  intro T locs X hT hF
  obtain ⟨s₂, o, h1, h2⟩ := hr T locs X hT hF
  exact ⟨s₂, o, XS.i2c X.here hx rfl (hb hby hd) rfl h1, h2⟩
theorem w_dup (ok : Ok Z K code own nm maxL ret) {x : Value} (hd : Fet code pc pc' (.dup) 1) (hc : x.category = 1) (hr : Wp l R n0 K Q h k n pc' Ls (x :: x :: st)) : Wp l R n0 K Q h k n pc Ls (x :: st) := by
  obtain ⟨p, e, s, m, args, below, meth, c⟩ := K
  obtain ⟨hx, hby, hZ, hown, hnm, hml, hret, hlk⟩ := ok
  obtain ⟨hd, rfl⟩ := hd
  intro T locs X hT hF
  obtain ⟨s₂, o, h1, h2⟩ := hr T locs X hT hF
  exact ⟨s₂, o, XS.dup X.here hx rfl (hb hby hd) rfl hc h1, h2⟩
theorem w_pop (ok : Ok Z K code own nm maxL ret) {x : Value} (hd : Fet code pc pc' (.pop) 1) (hc : x.category = 1) (hr : Wp l R n0 K Q h k n pc' Ls st) : Wp l R n0 K Q h k n pc Ls (x :: st) := by
  obtain ⟨p, e, s, m, args, below, meth, c⟩ := K
  obtain ⟨hx, hby, hZ, hown, hnm, hml, hret, hlk⟩ := ok
  obtain ⟨hd, rfl⟩ := hd
  intro T locs X hT hF
  obtain ⟨s₂, o, h1, h2⟩ := hr T locs X hT hF
  exact ⟨s₂, o, XS.pop X.here hx rfl (hb hby hd) rfl hc h1, h2⟩
theorem w_dupX1 (ok : Ok Z K code own nm maxL ret) {x y : Value} (hd : Fet code pc pc' (.dup_x1) 1) (hc : x.category = 1) (hc' : y.category = 1) (hr : Wp l R n0 K Q h k n pc' Ls (x :: y :: x :: st)) : Wp l R n0 K Q h k n pc Ls (x :: y :: st) := by
  obtain ⟨p, e, s, m, args, below, meth, c⟩ := K
  obtain ⟨hx, hby, hZ, hown, hnm, hml, hret, hlk⟩ := ok
  obtain ⟨hd, rfl⟩ := hd
  intro T locs X hT hF
  obtain ⟨s₂, o, h1, h2⟩ := hr T locs X hT hF
  exact ⟨s₂, o, XS.dupX1 X.here hx rfl (hb hby hd) rfl hc hc' h1, h2⟩
theorem w_dup2 (ok : Ok Z K code own nm maxL ret) {x y : Value} (hd : Fet code pc pc' (.dup2) 1) (hc : x.category = 1) (hc' : y.category = 1) (hr : Wp l R n0 K Q h k n pc' Ls (x :: y :: x :: y :: st)) : Wp l R n0 K Q h k n pc Ls (x :: y :: st) := by
  obtain ⟨p, e, s, m, args, below, meth, c⟩ := K
  obtain ⟨hx, hby, hZ, hown, hnm, hml, hret, hlk⟩ := ok
  obtain ⟨hd, rfl⟩ := hd
  intro T locs X hT hF
  obtain ⟨s₂, o, h1, h2⟩ := hr T locs X hT hF
  exact ⟨s₂, o, Jvm.Free.XT.dup2 X.here hx rfl (hb hby hd) rfl hc hc' h1, h2⟩
theorem w_dup2L (ok : Ok Z K code own nm maxL ret) {x : Int64} (hd : Fet code pc pc' (.dup2) 1)  (hr : Wp l R n0 K Q h k n pc' Ls (.long x :: .long x :: st)) : Wp l R n0 K Q h k n pc Ls (.long x :: st) := by
  obtain ⟨p, e, s, m, args, below, meth, c⟩ := K
  obtain ⟨hx, hby, hZ, hown, hnm, hml, hret, hlk⟩ := ok
  obtain ⟨hd, rfl⟩ := hd
  intro T locs X hT hF
  obtain ⟨s₂, o, h1, h2⟩ := hr T locs X hT hF
  exact ⟨s₂, o, Jvm.Free.XT.dup2L X.here hx rfl (hb hby hd) rfl h1, h2⟩
theorem w_irem (ok : Ok Z K code own nm maxL ret) {x y : Int32} (hd : Fet code pc pc' (.irem) 1) (hy : y ≠ 0) (hr : Wp l R n0 K Q h k n pc' Ls (.int (x % y) :: st)) : Wp l R n0 K Q h k n pc Ls (.int y :: .int x :: st) := by
  obtain ⟨p, e, s, m, args, below, meth, c⟩ := K
  obtain ⟨hx, hby, hZ, hown, hnm, hml, hret, hlk⟩ := ok
  obtain ⟨hd, rfl⟩ := hd
  intro T locs X hT hF
  obtain ⟨s₂, o, h1, h2⟩ := hr T locs X hT hF
  exact ⟨s₂, o, iremM X hx rfl (hb hby hd) rfl hy h1, h2⟩
theorem lrem_mod (x y : Int64) : x - (x / y) * y = x % y := by
  apply Int64.toInt_inj.mp
  have h1 := Int64.le_toInt (x % y)
  have h2 := Int64.toInt_lt (x % y)
  rw [Int64.toInt_sub, Int64.toInt_mul, Int64.toInt_div, Int.bmod_mul_bmod, Int.sub_bmod_bmod, Int.mul_comm (x.toInt.tdiv y.toInt), ← Int.tmod_def, ← Int64.toInt_mod]
  exact Int.bmod_eq_of_le_mul_two (by omega) (by omega)

theorem w_lrem (ok : Ok Z K code own nm maxL ret) {x y : Int64} (hd : Fet code pc pc' (.lrem) 1) (hy : y ≠ 0) (hr : Wp l R n0 K Q h k n pc' Ls (.long (x % y) :: st)) : Wp l R n0 K Q h k n pc Ls (.long y :: .long x :: st) := by
  obtain ⟨p, e, s, m, args, below, meth, c⟩ := K
  obtain ⟨hx, hby, hZ, hown, hnm, hml, hret, hlk⟩ := ok
  obtain ⟨hd, rfl⟩ := hd
  intro T locs X hT hF
  obtain ⟨s₂, o, h1, h2⟩ := hr T locs X hT hF
  exact ⟨s₂, o, XS.lrem X.here hx rfl (hb hby hd) rfl hy (by rw [lrem_mod]; exact h1), h2⟩
theorem w_ldc (ok : Ok Z K code own nm maxL ret) {i : Nat} {x : Int32} (w : (Cond.constant own i x).before a0 Z = true) (hd : Fet code pc pc' (.ldc i) 2) (hr : Wp l R n0 K Q h k n pc' Ls (.int x :: st)) : Wp l R n0 K Q h k n pc Ls st := by
  obtain ⟨p, e, s, m, args, below, meth, c⟩ := K
  obtain ⟨hx, hby, hZ, hown, hnm, hml, hret, hlk⟩ := ok
  obtain ⟨hd, rfl⟩ := hd
  intro T locs X hT hF
  obtain ⟨s₂, o, h1, h2⟩ := hr T locs X hT hF
  exact ⟨s₂, o, X.ldcInt hx hown (mvT hZ w) (g := mkF m pc Ls st) rfl (hb hby hd) _ h1, h2⟩
theorem w_ldc2 (ok : Ok Z K code own nm maxL ret) {i : Nat} {x : Int64} (w : (Cond.constantLong own i x).before a0 Z = true) (hd : Fet code pc pc' (.ldc2_w i) 3) (hr : Wp l R n0 K Q h k n pc' Ls (.long x :: st)) : Wp l R n0 K Q h k n pc Ls st := by
  obtain ⟨p, e, s, m, args, below, meth, c⟩ := K
  obtain ⟨hx, hby, hZ, hown, hnm, hml, hret, hlk⟩ := ok
  obtain ⟨hd, rfl⟩ := hd
  intro T locs X hT hF
  obtain ⟨s₂, o, h1, h2⟩ := hr T locs X hT hF
  exact ⟨s₂, o, X.ldc2Long hx hown (mvT hZ w) (g := mkF m pc Ls st) rfl (hb hby hd) _ h1, h2⟩
theorem w_goto (ok : Ok Z K code own nm maxL ret) {pcN : Nat} {o : Int} (hd : Brn code pc pcN pc' (.goto o) o) (hr : Wp l R n0 K Q h k n pc' Ls st) : Wp l R n0 K Q h k n pc Ls st := by
  obtain ⟨p, e, s, m, args, below, meth, c⟩ := K
  obtain ⟨hx, hby, hZ, hown, hnm, hml, hret, hlk⟩ := ok
  obtain ⟨hd, rfl, ho, hp⟩ := hd
  intro T locs X hT hF
  obtain ⟨s₂, o, h1, h2⟩ := hr T locs X hT hF
  exact ⟨s₂, o, XS.goto X.here hx rfl rfl (hb hby hd) ho hp h1, h2⟩
theorem w_if0 (ok : Ok Z K code own nm maxL ret) {pcN pcT : Nat} {o : Int} {cd : ClassFile.Cond} {x : Int32} (hd : Brn code pc pcN pcT (.ifCond cd o) o) (hy : ifCond.holds cd x = true → Wp l R n0 K Q h k n pcT Ls st) (hn : ifCond.holds cd x = false → Wp l R n0 K Q h k n pcN Ls st) : Wp l R n0 K Q h k n pc Ls (.int x :: st) := by
  obtain ⟨p, e, s, m, args, below, meth, c⟩ := K
  obtain ⟨hx, hby, hZ, hown, hnm, hml, hret, hlk⟩ := ok
  obtain ⟨hd, rfl, ho, hp⟩ := hd
  intro T locs X hT hF
  cases hc : ifCond.holds cd x
  · obtain ⟨s₂, o, h1, h2⟩ := hn hc T locs X hT hF
    exact ⟨s₂, o, XS.ifNo X.here hx rfl (hb hby hd) rfl hc h1, h2⟩
  · obtain ⟨s₂, o, h1, h2⟩ := hy hc T locs X hT hF
    exact ⟨s₂, o, XS.ifYes X.here hx rfl rfl (hb hby hd) rfl hc ho hp h1, h2⟩
theorem w_ic (ok : Ok Z K code own nm maxL ret) {pcN pcT : Nat} {o : Int} {cd : ClassFile.Cond} {x y : Int32} (hd : Brn code pc pcN pcT (.if_icmp cd o) o) (hy : if_icmp.holds cd x y = true → Wp l R n0 K Q h k n pcT Ls st) (hn : if_icmp.holds cd x y = false → Wp l R n0 K Q h k n pcN Ls st) : Wp l R n0 K Q h k n pc Ls (.int y :: .int x :: st) := by
  obtain ⟨p, e, s, m, args, below, meth, c⟩ := K
  obtain ⟨hx, hby, hZ, hown, hnm, hml, hret, hlk⟩ := ok
  obtain ⟨hd, rfl, ho, hp⟩ := hd
  intro T locs X hT hF
  cases hc : if_icmp.holds cd x y
  · obtain ⟨s₂, o, h1, h2⟩ := hn hc T locs X hT hF
    exact ⟨s₂, o, XS.icmpNo X.here hx rfl (hb hby hd) rfl hc h1, h2⟩
  · obtain ⟨s₂, o, h1, h2⟩ := hy hc T locs X hT hF
    exact ⟨s₂, o, XS.icmpYes X.here hx rfl rfl (hb hby hd) rfl hc ho hp h1, h2⟩
theorem w_lcmp (ok : Ok Z K code own nm maxL ret) {x y : Int64} (hd : Fet code pc pc' .lcmp 1) (hr : Wp l R n0 K Q h k n pc' Ls (.int (lcmpW x y) :: st)) : Wp l R n0 K Q h k n pc Ls (.long y :: .long x :: st) := by
  obtain ⟨p, e, s, m, args, below, meth, c⟩ := K
  obtain ⟨hx, hby, hZ, hown, hnm, hml, hret, hlk⟩ := ok
  obtain ⟨hd, rfl⟩ := hd
  intro T locs X hT hF
  obtain ⟨s₂, o, h1, h2⟩ := hr T locs X hT hF
  exact ⟨s₂, o, XS.lcmp X.here hx rfl (hb hby hd) rfl h1, h2⟩
theorem h_eq {x y : Int32} : if_icmp.holds .eq x y = decide (x = y) := by rw [Bool.eq_iff_iff]; simp [if_icmp.holds]
theorem h_ne {x y : Int32} : if_icmp.holds .ne x y = decide (¬ x = y) := by rw [Bool.eq_iff_iff]; simp [if_icmp.holds]
theorem h_lt {x y : Int32} : if_icmp.holds .lt x y = decide (x < y) := by simp [if_icmp.holds]
theorem h_ge {x y : Int32} : if_icmp.holds .ge x y = decide (¬ x < y) := by simp [if_icmp.holds]
theorem h_gt {x y : Int32} : if_icmp.holds .gt x y = decide (y < x) := by simp [if_icmp.holds]
theorem h_le {x y : Int32} : if_icmp.holds .le x y = decide (¬ y < x) := by simp [if_icmp.holds]
theorem w_ic_eq (ok : Ok Z K code own nm maxL ret) {pcN pcT : Nat} {o : Int} {x y : Int32} (hd : Brn code pc pcN pcT (.if_icmp .eq o) o) (hy : x = y → Wp l R n0 K Q h k n pcT Ls st) (hn : ¬ x = y → Wp l R n0 K Q h k n pcN Ls st) : Wp l R n0 K Q h k n pc Ls (.int y :: .int x :: st) :=
  w_ic ok hd (fun q => hy (by rw [h_eq] at q; simpa using q)) (fun q => hn (by rw [h_eq] at q; simpa using q))
theorem w_if_eq (ok : Ok Z K code own nm maxL ret) {pcN pcT : Nat} {o : Int} {x : Int32} (hd : Brn code pc pcN pcT (.ifCond .eq o) o) (hy : x = 0 → Wp l R n0 K Q h k n pcT Ls st) (hn : ¬ x = 0 → Wp l R n0 K Q h k n pcN Ls st) : Wp l R n0 K Q h k n pc Ls (.int x :: st) :=
  w_if0 ok hd (fun q => hy (by rw [if0, h_eq] at q; simpa using q)) (fun q => hn (by rw [if0, h_eq] at q; simpa using q))
theorem w_lc_eq (ok : Ok Z K code own nm maxL ret) {pcM pcN pcT : Nat} {o : Int} {x y : Int64} (hd1 : Fet code pc pcM .lcmp 1) (hd : Brn code pcM pcN pcT (.ifCond .eq o) o) (hy : x = y → Wp l R n0 K Q h k n pcT Ls st) (hn : ¬ x = y → Wp l R n0 K Q h k n pcN Ls st) : Wp l R n0 K Q h k n pc Ls (.long y :: .long x :: st) :=
  w_lcmp ok hd1 (w_if_eq ok hd (fun q => hy ((lw_eq x y).mp q)) (fun q => hn (fun r => q ((lw_eq x y).mpr r))))
theorem w_ic_ne (ok : Ok Z K code own nm maxL ret) {pcN pcT : Nat} {o : Int} {x y : Int32} (hd : Brn code pc pcN pcT (.if_icmp .ne o) o) (hy : ¬ x = y → Wp l R n0 K Q h k n pcT Ls st) (hn : x = y → Wp l R n0 K Q h k n pcN Ls st) : Wp l R n0 K Q h k n pc Ls (.int y :: .int x :: st) :=
  w_ic ok hd (fun q => hy (by rw [h_ne] at q; simpa using q)) (fun q => hn (by rw [h_ne] at q; simpa using q))
theorem w_if_ne (ok : Ok Z K code own nm maxL ret) {pcN pcT : Nat} {o : Int} {x : Int32} (hd : Brn code pc pcN pcT (.ifCond .ne o) o) (hy : ¬ x = 0 → Wp l R n0 K Q h k n pcT Ls st) (hn : x = 0 → Wp l R n0 K Q h k n pcN Ls st) : Wp l R n0 K Q h k n pc Ls (.int x :: st) :=
  w_if0 ok hd (fun q => hy (by rw [if0, h_ne] at q; simpa using q)) (fun q => hn (by rw [if0, h_ne] at q; simpa using q))
theorem w_lc_ne (ok : Ok Z K code own nm maxL ret) {pcM pcN pcT : Nat} {o : Int} {x y : Int64} (hd1 : Fet code pc pcM .lcmp 1) (hd : Brn code pcM pcN pcT (.ifCond .ne o) o) (hy : ¬ x = y → Wp l R n0 K Q h k n pcT Ls st) (hn : x = y → Wp l R n0 K Q h k n pcN Ls st) : Wp l R n0 K Q h k n pc Ls (.long y :: .long x :: st) :=
  w_lcmp ok hd1 (w_if_ne ok hd (fun q => hy (fun r => q ((lw_eq x y).mpr r))) (fun q => hn ((lw_eq x y).mp q)))
theorem w_ic_lt (ok : Ok Z K code own nm maxL ret) {pcN pcT : Nat} {o : Int} {x y : Int32} (hd : Brn code pc pcN pcT (.if_icmp .lt o) o) (hy : x < y → Wp l R n0 K Q h k n pcT Ls st) (hn : ¬ x < y → Wp l R n0 K Q h k n pcN Ls st) : Wp l R n0 K Q h k n pc Ls (.int y :: .int x :: st) :=
  w_ic ok hd (fun q => hy (by rw [h_lt] at q; simpa using q)) (fun q => hn (by rw [h_lt] at q; simpa using q))
theorem w_if_lt (ok : Ok Z K code own nm maxL ret) {pcN pcT : Nat} {o : Int} {x : Int32} (hd : Brn code pc pcN pcT (.ifCond .lt o) o) (hy : x < 0 → Wp l R n0 K Q h k n pcT Ls st) (hn : ¬ x < 0 → Wp l R n0 K Q h k n pcN Ls st) : Wp l R n0 K Q h k n pc Ls (.int x :: st) :=
  w_if0 ok hd (fun q => hy (by rw [if0, h_lt] at q; simpa using q)) (fun q => hn (by rw [if0, h_lt] at q; simpa using q))
theorem w_lc_lt (ok : Ok Z K code own nm maxL ret) {pcM pcN pcT : Nat} {o : Int} {x y : Int64} (hd1 : Fet code pc pcM .lcmp 1) (hd : Brn code pcM pcN pcT (.ifCond .lt o) o) (hy : x < y → Wp l R n0 K Q h k n pcT Ls st) (hn : ¬ x < y → Wp l R n0 K Q h k n pcN Ls st) : Wp l R n0 K Q h k n pc Ls (.long y :: .long x :: st) :=
  w_lcmp ok hd1 (w_if_lt ok hd (fun q => hy ((lw_lt x y).mp q)) (fun q => hn (fun r => q ((lw_lt x y).mpr r))))
theorem w_ic_ge (ok : Ok Z K code own nm maxL ret) {pcN pcT : Nat} {o : Int} {x y : Int32} (hd : Brn code pc pcN pcT (.if_icmp .ge o) o) (hy : ¬ x < y → Wp l R n0 K Q h k n pcT Ls st) (hn : x < y → Wp l R n0 K Q h k n pcN Ls st) : Wp l R n0 K Q h k n pc Ls (.int y :: .int x :: st) :=
  w_ic ok hd (fun q => hy (by rw [h_ge] at q; simpa using q)) (fun q => hn (by rw [h_ge] at q; simpa using q))
theorem w_if_ge (ok : Ok Z K code own nm maxL ret) {pcN pcT : Nat} {o : Int} {x : Int32} (hd : Brn code pc pcN pcT (.ifCond .ge o) o) (hy : ¬ x < 0 → Wp l R n0 K Q h k n pcT Ls st) (hn : x < 0 → Wp l R n0 K Q h k n pcN Ls st) : Wp l R n0 K Q h k n pc Ls (.int x :: st) :=
  w_if0 ok hd (fun q => hy (by rw [if0, h_ge] at q; simpa using q)) (fun q => hn (by rw [if0, h_ge] at q; simpa using q))
theorem w_lc_ge (ok : Ok Z K code own nm maxL ret) {pcM pcN pcT : Nat} {o : Int} {x y : Int64} (hd1 : Fet code pc pcM .lcmp 1) (hd : Brn code pcM pcN pcT (.ifCond .ge o) o) (hy : ¬ x < y → Wp l R n0 K Q h k n pcT Ls st) (hn : x < y → Wp l R n0 K Q h k n pcN Ls st) : Wp l R n0 K Q h k n pc Ls (.long y :: .long x :: st) :=
  w_lcmp ok hd1 (w_if_ge ok hd (fun q => hy (fun r => q ((lw_lt x y).mpr r))) (fun q => hn ((lw_lt x y).mp q)))
theorem w_ic_gt (ok : Ok Z K code own nm maxL ret) {pcN pcT : Nat} {o : Int} {x y : Int32} (hd : Brn code pc pcN pcT (.if_icmp .gt o) o) (hy : y < x → Wp l R n0 K Q h k n pcT Ls st) (hn : ¬ y < x → Wp l R n0 K Q h k n pcN Ls st) : Wp l R n0 K Q h k n pc Ls (.int y :: .int x :: st) :=
  w_ic ok hd (fun q => hy (by rw [h_gt] at q; simpa using q)) (fun q => hn (by rw [h_gt] at q; simpa using q))
theorem w_if_gt (ok : Ok Z K code own nm maxL ret) {pcN pcT : Nat} {o : Int} {x : Int32} (hd : Brn code pc pcN pcT (.ifCond .gt o) o) (hy : 0 < x → Wp l R n0 K Q h k n pcT Ls st) (hn : ¬ 0 < x → Wp l R n0 K Q h k n pcN Ls st) : Wp l R n0 K Q h k n pc Ls (.int x :: st) :=
  w_if0 ok hd (fun q => hy (by rw [if0, h_gt] at q; simpa using q)) (fun q => hn (by rw [if0, h_gt] at q; simpa using q))
theorem w_lc_gt (ok : Ok Z K code own nm maxL ret) {pcM pcN pcT : Nat} {o : Int} {x y : Int64} (hd1 : Fet code pc pcM .lcmp 1) (hd : Brn code pcM pcN pcT (.ifCond .gt o) o) (hy : y < x → Wp l R n0 K Q h k n pcT Ls st) (hn : ¬ y < x → Wp l R n0 K Q h k n pcN Ls st) : Wp l R n0 K Q h k n pc Ls (.long y :: .long x :: st) :=
  w_lcmp ok hd1 (w_if_gt ok hd (fun q => hy ((lw_gt x y).mp q)) (fun q => hn (fun r => q ((lw_gt x y).mpr r))))
theorem w_ic_le (ok : Ok Z K code own nm maxL ret) {pcN pcT : Nat} {o : Int} {x y : Int32} (hd : Brn code pc pcN pcT (.if_icmp .le o) o) (hy : ¬ y < x → Wp l R n0 K Q h k n pcT Ls st) (hn : y < x → Wp l R n0 K Q h k n pcN Ls st) : Wp l R n0 K Q h k n pc Ls (.int y :: .int x :: st) :=
  w_ic ok hd (fun q => hy (by rw [h_le] at q; simpa using q)) (fun q => hn (by rw [h_le] at q; simpa using q))
theorem w_if_le (ok : Ok Z K code own nm maxL ret) {pcN pcT : Nat} {o : Int} {x : Int32} (hd : Brn code pc pcN pcT (.ifCond .le o) o) (hy : ¬ 0 < x → Wp l R n0 K Q h k n pcT Ls st) (hn : 0 < x → Wp l R n0 K Q h k n pcN Ls st) : Wp l R n0 K Q h k n pc Ls (.int x :: st) :=
  w_if0 ok hd (fun q => hy (by rw [if0, h_le] at q; simpa using q)) (fun q => hn (by rw [if0, h_le] at q; simpa using q))
theorem w_lc_le (ok : Ok Z K code own nm maxL ret) {pcM pcN pcT : Nat} {o : Int} {x y : Int64} (hd1 : Fet code pc pcM .lcmp 1) (hd : Brn code pcM pcN pcT (.ifCond .le o) o) (hy : ¬ y < x → Wp l R n0 K Q h k n pcT Ls st) (hn : y < x → Wp l R n0 K Q h k n pcN Ls st) : Wp l R n0 K Q h k n pc Ls (.long y :: .long x :: st) :=
  w_lcmp ok hd1 (w_if_le ok hd (fun q => hy (fun r => q ((lw_gt x y).mpr r))) (fun q => hn ((lw_gt x y).mp q)))
theorem w_ifnull_yes (ok : Ok Z K code own nm maxL ret) {pcN pcT : Nat} {o : Int} (hd : Brn code pc pcN pcT (.ifnull o) o) (hr : Wp l R n0 K Q h k n pcT Ls st) : Wp l R n0 K Q h k n pc Ls (.null :: st) := by
  obtain ⟨p, e, s, m, args, below, meth, c⟩ := K
  obtain ⟨hx, hby, hZ, hown, hnm, hml, hret, hlk⟩ := ok
  obtain ⟨hd, rfl, ho, hp⟩ := hd
  intro T locs X hT hF
  obtain ⟨s₂, o, h1, h2⟩ := hr T locs X hT hF
  exact ⟨s₂, o, XS.ifnullYes X.here hx rfl rfl (hb hby hd) rfl ho hp h1, h2⟩
theorem w_ifnull_no (ok : Ok Z K code own nm maxL ret) {pcN pcT : Nat} {o : Int} {b : Addr} (hd : Brn code pc pcN pcT (.ifnull o) o) (hr : Wp l R n0 K Q h k n pcN Ls st) : Wp l R n0 K Q h k n pc Ls (.ref b :: st) := by
  obtain ⟨p, e, s, m, args, below, meth, c⟩ := K
  obtain ⟨hx, hby, hZ, hown, hnm, hml, hret, hlk⟩ := ok
  obtain ⟨hd, rfl, ho, hp⟩ := hd
  intro T locs X hT hF
  obtain ⟨s₂, o, h1, h2⟩ := hr T locs X hT hF
  exact ⟨s₂, o, XS.ifnullNo X.here hx rfl (hb hby hd) rfl h1, h2⟩
theorem w_ifnonnull_yes (ok : Ok Z K code own nm maxL ret) {pcN pcT : Nat} {o : Int} {b : Addr} (hd : Brn code pc pcN pcT (.ifnonnull o) o) (hr : Wp l R n0 K Q h k n pcT Ls st) : Wp l R n0 K Q h k n pc Ls (.ref b :: st) := by
  obtain ⟨p, e, s, m, args, below, meth, c⟩ := K
  obtain ⟨hx, hby, hZ, hown, hnm, hml, hret, hlk⟩ := ok
  obtain ⟨hd, rfl, ho, hp⟩ := hd
  intro T locs X hT hF
  obtain ⟨s₂, o, h1, h2⟩ := hr T locs X hT hF
  exact ⟨s₂, o, XS.ifnonnullYes X.here hx rfl rfl (hb hby hd) rfl ho hp h1, h2⟩
theorem w_ifnonnull_no (ok : Ok Z K code own nm maxL ret) {pcN pcT : Nat} {o : Int} (hd : Brn code pc pcN pcT (.ifnonnull o) o) (hr : Wp l R n0 K Q h k n pcN Ls st) : Wp l R n0 K Q h k n pc Ls (.null :: st) := by
  obtain ⟨p, e, s, m, args, below, meth, c⟩ := K
  obtain ⟨hx, hby, hZ, hown, hnm, hml, hret, hlk⟩ := ok
  obtain ⟨hd, rfl, ho, hp⟩ := hd
  intro T locs X hT hF
  obtain ⟨s₂, o, h1, h2⟩ := hr T locs X hT hF
  exact ⟨s₂, o, XS.ifnonnullNo X.here hx rfl (hb hby hd) rfl h1, h2⟩
theorem w_acmp_eq (ok : Ok Z K code own nm maxL ret) {pcN pcT : Nat} {o : Int} {x y : Value} (hd : Brn code pc pcN pcT (.if_acmp .eq o) o) (hx' : x.isRef = true) (hy' : y.isRef = true) (hy : x = y → Wp l R n0 K Q h k n pcT Ls st) (hn : ¬ x = y → Wp l R n0 K Q h k n pcN Ls st) : Wp l R n0 K Q h k n pc Ls (y :: x :: st) := by
  obtain ⟨p, e, s, m, args, below, meth, c⟩ := K
  obtain ⟨hx, hby, hZ, hown, hnm, hml, hret, hlk⟩ := ok
  obtain ⟨hd, rfl, ho, hp⟩ := hd
  intro T locs X hT hF
  by_cases q : x = y
  · obtain ⟨s₂, o, h1, h2⟩ := hy q T locs X hT hF
    exact ⟨s₂, o, Jvm.RoadKit.acmp X hx rfl hx' hy' rfl (hb hby hd) rfl (decide_eq_true q) ho (by simp [acV, hp]) h1, h2⟩
  · obtain ⟨s₂, o, h1, h2⟩ := hn q T locs X hT hF
    exact ⟨s₂, o, Jvm.RoadKit.acmp X hx rfl hx' hy' rfl (hb hby hd) rfl (decide_eq_false q) ho (by simp [acV, hp]) h1, h2⟩
theorem w_acmp_ne (ok : Ok Z K code own nm maxL ret) {pcN pcT : Nat} {o : Int} {x y : Value} (hd : Brn code pc pcN pcT (.if_acmp .ne o) o) (hx' : x.isRef = true) (hy' : y.isRef = true) (hy : ¬ x = y → Wp l R n0 K Q h k n pcT Ls st) (hn : x = y → Wp l R n0 K Q h k n pcN Ls st) : Wp l R n0 K Q h k n pc Ls (y :: x :: st) := by
  obtain ⟨p, e, s, m, args, below, meth, c⟩ := K
  obtain ⟨hx, hby, hZ, hown, hnm, hml, hret, hlk⟩ := ok
  obtain ⟨hd, rfl, ho, hp⟩ := hd
  intro T locs X hT hF
  by_cases q : x = y
  · obtain ⟨s₂, o, h1, h2⟩ := hn q T locs X hT hF
    exact ⟨s₂, o, Jvm.RoadKit.acmp X hx rfl hx' hy' rfl (hb hby hd) rfl (decide_eq_true q) ho (by simp [acV, hp]) h1, h2⟩
  · obtain ⟨s₂, o, h1, h2⟩ := hy q T locs X hT hF
    exact ⟨s₂, o, Jvm.RoadKit.acmp X hx rfl hx' hy' rfl (hb hby hd) rfl (decide_eq_false q) ho (by simp [acV, hp]) h1, h2⟩
theorem w_return (ok : Ok Z K code own nm maxL none) (hd : Fet code pc pc' .return_ 1) (hk : k ≤ R.cells) (hn : n ≤ R.slots) (hQ : Q none h) : Wp l R n0 K Q h k n pc Ls [] := by
  obtain ⟨p, e, s, m, args, below, meth, c⟩ := K
  obtain ⟨hx, hby, hZ, hown, hnm, hml, hret, hlk⟩ := ok
  obtain ⟨hd, -⟩ := hd
  intro T locs X hT hF
  obtain ⟨fs, hr, hrun, hended, hW, hsame⟩ := X.leave (v := none) (fun _ => rfl) hlk
  refine ⟨_, _, X.returnOut hx hret (hb hby hd) hr, hrun, hended, _, locs, rfl, ⟨?_, hF⟩, ⟨_, rfl⟩, hW, hsame.mono hk hn⟩
  show Q _ T.heap
  rw [hT]; exact hQ
theorem w_ireturnN {t : FieldType} (ok : Ok Z K code own nm maxL (some t)) {x : Int32} (ht : t = .boolean ∨ t = .byte ∨ t = .char ∨ t = .short) (hd : Fet code pc pc' .ireturn 1) (hk : k ≤ R.cells) (hn : n ≤ R.slots) (hQ : Q (some (.int (nar t x))) h) : Wp l R n0 K Q h k n pc Ls (.int x :: st) := by
  obtain ⟨p, e, s, m, args, below, meth, c⟩ := K
  obtain ⟨hx, hby, hZ, hown, hnm, hml, hret, hlk⟩ := ok
  obtain ⟨hd, -⟩ := hd
  intro T locs X hT hF
  obtain ⟨fs, hr, hrun, hended, hW, hsame⟩ := X.leave (v := some (.int (nar t x))) (fun q => by rw [hret] at q; cases q) hlk
  refine ⟨_, _, retN X hx hret ht (hb hby hd) hr, hrun, hended, _, locs, rfl, ⟨?_, hF⟩, ⟨_, rfl⟩, hW, hsame.mono hk hn⟩
  show Q _ T.heap
  rw [hT]; exact hQ
theorem w_ireturnI (ok : Ok Z K code own nm maxL (some .int)) {x : Int32} (hd : Fet code pc pc' .ireturn 1) (hk : k ≤ R.cells) (hn : n ≤ R.slots) (hQ : Q (some (.int x)) h) : Wp l R n0 K Q h k n pc Ls (.int x :: st) := by
  obtain ⟨p, e, s, m, args, below, meth, c⟩ := K
  obtain ⟨hx, hby, hZ, hown, hnm, hml, hret, hlk⟩ := ok
  obtain ⟨hd, -⟩ := hd
  intro T locs X hT hF
  obtain ⟨fs, hr, hrun, hended, hW, hsame⟩ := X.leave (v := some (.int x)) (fun q => by rw [hret] at q; cases q) hlk
  refine ⟨_, _, retOut X hx hret (by rfl) (Or.inl ⟨rfl, Or.inl rfl, _, rfl⟩) (hb hby hd) hr, hrun, hended, _, locs, rfl, ⟨?_, hF⟩, ⟨_, rfl⟩, hW, hsame.mono hk hn⟩
  show Q _ T.heap
  rw [hT]; exact hQ
theorem w_lreturn (ok : Ok Z K code own nm maxL (some .long)) {x : Int64} (hd : Fet code pc pc' .lreturn 1) (hk : k ≤ R.cells) (hn : n ≤ R.slots) (hQ : Q (some (.long x)) h) : Wp l R n0 K Q h k n pc Ls (.long x :: st) := by
  obtain ⟨p, e, s, m, args, below, meth, c⟩ := K
  obtain ⟨hx, hby, hZ, hown, hnm, hml, hret, hlk⟩ := ok
  obtain ⟨hd, -⟩ := hd
  intro T locs X hT hF
  obtain ⟨fs, hr, hrun, hended, hW, hsame⟩ := X.leave (v := some (.long x)) (fun q => by rw [hret] at q; cases q) hlk
  refine ⟨_, _, retOut X hx hret (by rfl) (Or.inr (Or.inl ⟨rfl, rfl, _, rfl⟩)) (hb hby hd) hr, hrun, hended, _, locs, rfl, ⟨?_, hF⟩, ⟨_, rfl⟩, hW, hsame.mono hk hn⟩
  show Q _ T.heap
  rw [hT]; exact hQ
theorem w_areturn {t : FieldType} (ok : Ok Z K code own nm maxL (some t)) {x : Value} (ht : t.isReference = true) (hv : x.isRef = true) (hnar : narrow t x = x) (hd : Fet code pc pc' .areturn 1) (hk : k ≤ R.cells) (hn : n ≤ R.slots) (hQ : Q (some x) h) : Wp l R n0 K Q h k n pc Ls (x :: st) := by
  obtain ⟨p, e, s, m, args, below, meth, c⟩ := K
  obtain ⟨hx, hby, hZ, hown, hnm, hml, hret, hlk⟩ := ok
  obtain ⟨hd, -⟩ := hd
  intro T locs X hT hF
  obtain ⟨fs, hr, hrun, hended, hW, hsame⟩ := X.leave (v := some x) (fun q => by rw [hret] at q; cases q) hlk
  refine ⟨_, _, retOut X hx hret hnar (Or.inr (Or.inr (Or.inr (Or.inr ⟨rfl, ht, hv⟩)))) (hb hby hd) hr, hrun, hended, _, locs, rfl, ⟨?_, hF⟩, ⟨_, rfl⟩, hW, hsame.mono hk hn⟩
  show Q _ T.heap
  rw [hT]; exact hQ
theorem w_getfield (ok : Ok Z K code own nm maxL ret) {R0 O f d host : String} {i : Nat} {a : Addr} {x : Value} (w : (Cond.fieldLink own i R0 f d).before a0 Z = true ∨ (Cond.fieldLinkNest own i R0 f d host).before a0 Z = true) (via : Via Z R0 O f d) (F : Fld Z h a O f d x) (hd : Fet code pc pc' (.getfield i) 3) (hr : Wp l R n0 K Q h k n pc' Ls (x :: st)) : Wp l R n0 K Q h k n pc Ls (.ref a :: st) := by
  obtain ⟨p, e, s, m, args, below, meth, c⟩ := K
  obtain ⟨hx, hby, hZ, hown, hnm, hml, hret, hlk⟩ := ok
  obtain ⟨hd, rfl⟩ := hd
  intro T locs X hT hF
  obtain ⟨T', X', e', stp⟩ := getF X hx hZ hown w via hT F (g := mkF m pc Ls (.ref a :: st)) rfl rfl (hb hby hd)
  obtain ⟨s₂, o, h1, h2⟩ := hr T' locs X' e' hF
  exact ⟨s₂, o, stp _ h1, h2⟩
theorem w_getstatic (ok : Ok Z K code own nm maxL ret) {R0 O f d : String} {i : Nat} {x : Value} (w : (Cond.fieldLink own i R0 f d).before a0 Z = true) (via : Via Z R0 O f d) (F : Sta Z h O f d x) (hd : Fet code pc pc' (.getstatic i) 3) (hr : Wp l R n0 K Q h k n pc' Ls (x :: st)) : Wp l R n0 K Q h k n pc Ls st := by
  obtain ⟨p, e, s, m, args, below, meth, c⟩ := K
  obtain ⟨hx, hby, hZ, hown, hnm, hml, hret, hlk⟩ := ok
  obtain ⟨hd, rfl⟩ := hd
  intro T locs X hT hF
  obtain ⟨T', X', e', stp⟩ := getS (host := "") X hx hZ hown w via hT F (g := mkF m pc Ls st) rfl (hb hby hd)
  obtain ⟨s₂, o, h1, h2⟩ := hr T' locs X' e' hF
  exact ⟨s₂, o, stp _ h1, h2⟩
theorem w_putfield (ok : Ok Z K code own nm maxL ret) {R0 O f d host C : String} {i kk : Nat} {ty : FieldType} {a : Addr} {x old : Value} (w : (Cond.fieldLink own i R0 f d).before a0 Z = true ∨ (Cond.fieldLinkNest own i R0 f d host).before a0 Z = true) (via : Via Z R0 O f d) (F : Fld Z h a O f d old) (E : Exa Z h a C)
    (L : (Cond.lays C O f d).before a0 Z = true ∨ ((Cond.laysFinal C O f d).before a0 Z = true ∧ own = O ∧ nm = "<init>")) (wi : (Cond.instantiable C kk).before a0 Z = true) (hty : parseFieldDescriptor d = some ty) (hna : narrow ty x = x) (hfi : fits ty x = true) (ha : n0 ≤ a) (hd : Fet code pc pc' (.putfield i) 3)
    (hr : ∀ h', Wr h h' a (Jvm.RoadKit.slotOf Z O f d) x → Wp l R n0 K Q h' k n pc' Ls st) : Wp l R n0 K Q h k n pc Ls (x :: .ref a :: st) := by
  obtain ⟨p, e, s, m, args, below, meth, c⟩ := K
  obtain ⟨hx, hby, hZ, hown, hnm, hml, hret, hlk⟩ := ok
  obtain ⟨hd, rfl⟩ := hd
  intro T locs X hT hF
  obtain ⟨T', h', X', e', W', stp⟩ := putF X hx hZ hown w via hT F E (L.imp id fun q => ⟨q.1, q.2.1, hnm.trans q.2.2⟩) wi hty hna hfi (g := mkF m pc Ls (x :: .ref a :: st)) rfl rfl (hb hby hd)
  obtain ⟨s₂, o, h1, h2⟩ := hr h' W' T' _ X' e' (Fr.snoc X' hF ha)
  exact ⟨s₂, o, stp _ h1, h2⟩
theorem w_putfieldN (ok : Ok Z K code own nm maxL ret) {R0 O f d C : String} {i kk : Nat} {ty : FieldType} {a : Addr} {x x' old : Value} (w : (Cond.fieldLink own i R0 f d).before a0 Z = true) (via : Via Z R0 O f d) (F : Fld Z h a O f d old) (E : Exa Z h a C)
    (L : (Cond.lays C O f d).before a0 Z = true ∨ ((Cond.laysFinal C O f d).before a0 Z = true ∧ own = O ∧ nm = "<init>")) (wi : (Cond.instantiable C kk).before a0 Z = true) (hty : parseFieldDescriptor d = some ty) (hna : narrow ty x = x') (hfi : fits ty x' = true) (ha : n0 ≤ a) (hd : Fet code pc pc' (.putfield i) 3)
    (hr : ∀ h', Wr h h' a (Jvm.RoadKit.slotOf Z O f d) x' → Wp l R n0 K Q h' k n pc' Ls st) : Wp l R n0 K Q h k n pc Ls (x :: .ref a :: st) := by
  obtain ⟨p, e, s, m, args, below, meth, c⟩ := K
  obtain ⟨hx, hby, hZ, hown, hnm, hml, hret, hlk⟩ := ok
  obtain ⟨hd, rfl⟩ := hd
  intro T locs X hT hF
  obtain ⟨T', h', X', e', W', stp⟩ := putFN X hx hZ hown w via hT F E (L.imp id fun q => ⟨q.1, q.2.1, hnm.trans q.2.2⟩) wi hty hna hfi (g := mkF m pc Ls (x :: .ref a :: st)) rfl rfl (hb hby hd)
  obtain ⟨s₂, o, h1, h2⟩ := hr h' W' T' _ X' e' (Fr.snoc X' hF ha)
  exact ⟨s₂, o, stp _ h1, h2⟩
theorem w_new (ok : Ok Z K code own nm maxL ret) {C : String} {i nn : Nat} (w : (Cond.classLink own i C).before a0 Z = true) (wi : (Cond.instantiable C nn).before a0 Z = true) (wz : (Cond.initialized C).before a0 Z = true) (hd : Fet code pc pc' (.new i) 3) (ek : k + 1 = k') (en : n + nn = n') (hc : k' ≤ R.cells) (hl : n' ≤ R.slots)
    (hr : ∀ h' b, b = h.size → Ext h h' → Exa Z h' b C → (∀ {O f d : String} {ty : FieldType}, Laid Z a0 C O f d → parseFieldDescriptor d = some ty → Fld Z h' b O f d (defaultValue ty)) → Wp l R n0 K Q h' k' n' pc' Ls (.ref b :: st)) : Wp l R n0 K Q h k n pc Ls st := by
  obtain ⟨p, e, s, m, args, below, meth, c⟩ := K
  obtain ⟨hx, hby, hZ, hown, hnm, hml, hret, hlk⟩ := ok
  obtain ⟨hd, rfl⟩ := hd
  intro T locs X hT hF
  subst ek en
  obtain ⟨T', h', X', e', E', A', D', -, stp⟩ := newO X hx hZ hown w wi wz hT (g := mkF m pc Ls st) rfl (hb hby hd) hc hl
  obtain ⟨s₂, o, h1, h2⟩ := hr h' _ rfl E' A' D' T' _ X' e' hF
  exact ⟨s₂, o, stp _ h1, h2⟩
theorem w_newarray (ok : Ok Z K code own nm maxL ret) {aty : ArrayType} {z : Int32} {cap : Nat} (w : (Cond.arrayClass (newarray.typeOf aty)).before a0 Z = true) (hd : Fet code pc pc' (.newarray aty) 2) (hz : ¬ z < 0) (hcap : z.toNatClampNeg ≤ cap) (hb8 : cap * 8 ≤ 536870912) (ek : k + 1 = k') (en : n + cap = n') (hc : k' ≤ R.cells) (hl : n' ≤ R.slots)
    (hr : ∀ h' b cA, b = h.size → Ext h h' → Arr Z h' b (newA cA (newarray.typeOf aty) z) (newarray.typeOf aty) → Wp l R n0 K Q h' k' n' pc' Ls (.ref b :: st)) : Wp l R n0 K Q h k n pc Ls (.int z :: st) := by
  obtain ⟨p, e, s, m, args, below, meth, c⟩ := K
  obtain ⟨hx, hby, hZ, hown, hnm, hml, hret, hlk⟩ := ok
  obtain ⟨hd, rfl⟩ := hd
  intro T locs X hT hF
  subst ek en
  obtain ⟨T', h', cA, X', e', E', A', stp⟩ := newP X hx hZ w hT (g := mkF m pc Ls (.int z :: st)) rfl (hb hby hd) rfl hz hcap hb8 hc hl
  obtain ⟨s₂, o, h1, h2⟩ := hr h' _ cA rfl E' A' T' _ X' e' hF
  exact ⟨s₂, o, stp _ h1, h2⟩
theorem w_initO (ok : Ok Z K code own nm maxL ret) {i : Nat} {a : Addr} (w1 : (Cond.methodLink own i Lib.objectInit).before a0 Z = true) (w2 : (Cond.instanceMethod Lib.objectInit).before a0 Z = true) (w3 : (Cond.code Lib.objectInit ⟨#[0xb1]⟩ 1 none).before a0 Z = true) (hd : Fet code pc pc' (.invokespecial i) 3)
    (hsz : Ls.size = maxL) (hf : 1 ≤ R.frames) (hl : (st.map fun v => v.category).sum + 12 ≤ R.locals) (hr : Wp l R n0 K Q h k n pc' Ls st) : Wp l R n0 K Q h k n pc Ls (.ref a :: st) := by
  obtain ⟨p, e, s, m, args, below, meth, c⟩ := K
  obtain ⟨hx, hby, hZ, hown, hnm, hml, hret, hlk⟩ := ok
  obtain ⟨hd, rfl⟩ := hd
  intro T locs X hT hF
  obtain ⟨T', X', e', stp⟩ := initO X hx hZ hown w1 w2 w3 hT (g := mkF m pc Ls (.ref a :: st)) rfl (hsz.trans hml.symm) rfl (hb hby hd) hf (W := (st.map fun v => v.category).sum) (by show 2 * 0 + _ ≤ _; omega) hl
  obtain ⟨s₂, o, h1, h2⟩ := hr T' locs X' e' hF
  exact ⟨s₂, o, stp _ h1, h2⟩
theorem w_iastore (ok : Ok Z K code own nm maxL ret) {a : Addr} {cl : Cell} {j : Int32} {x : Int32} (A : Arr Z h a cl .int) (hj : ¬ (j < 0 ∨ cl.slots.size ≤ j.toNatClampNeg)) (ha : n0 ≤ a) (hd : Fet code pc pc' .iastore 1)
    (hr : ∀ h', Wr h h' a j.toNatClampNeg (.int x) → Wp l R n0 K Q h' k n pc' Ls st) : Wp l R n0 K Q h k n pc Ls ((.int x) :: .int j :: .ref a :: st) := by
  obtain ⟨p, e, s, m, args, below, meth, c⟩ := K
  obtain ⟨hx, hby, hZ, hown, hnm, hml, hret, hlk⟩ := ok
  obtain ⟨hd, rfl⟩ := hd
  intro T locs X hT hF
  obtain ⟨T', h', X', e', W', stp⟩ := stI X hx hZ hT A hj (g := mkF m pc Ls ((.int x) :: .int j :: .ref a :: st)) rfl rfl (hb hby hd)
  obtain ⟨s₂, o, h1, h2⟩ := hr h' W' T' _ X' e' (Fr.snoc X' hF ha)
  exact ⟨s₂, o, stp _ h1, h2⟩
theorem w_lastore (ok : Ok Z K code own nm maxL ret) {a : Addr} {cl : Cell} {j : Int32} {x : Int64} (A : Arr Z h a cl .long) (hj : ¬ (j < 0 ∨ cl.slots.size ≤ j.toNatClampNeg)) (ha : n0 ≤ a) (hd : Fet code pc pc' .lastore 1)
    (hr : ∀ h', Wr h h' a j.toNatClampNeg (.long x) → Wp l R n0 K Q h' k n pc' Ls st) : Wp l R n0 K Q h k n pc Ls ((.long x) :: .int j :: .ref a :: st) := by
  obtain ⟨p, e, s, m, args, below, meth, c⟩ := K
  obtain ⟨hx, hby, hZ, hown, hnm, hml, hret, hlk⟩ := ok
  obtain ⟨hd, rfl⟩ := hd
  intro T locs X hT hF
  obtain ⟨T', h', X', e', W', stp⟩ := stJ X hx hZ hT A hj (g := mkF m pc Ls ((.long x) :: .int j :: .ref a :: st)) rfl rfl (hb hby hd)
  obtain ⟨s₂, o, h1, h2⟩ := hr h' W' T' _ X' e' (Fr.snoc X' hF ha)
  exact ⟨s₂, o, stp _ h1, h2⟩
theorem w_castore (ok : Ok Z K code own nm maxL ret) {a : Addr} {cl : Cell} {j : Int32} {x : Int32} (A : Arr Z h a cl .char) (hj : ¬ (j < 0 ∨ cl.slots.size ≤ j.toNatClampNeg)) (ha : n0 ≤ a) (hd : Fet code pc pc' .castore 1)
    (hr : ∀ h', Wr h h' a j.toNatClampNeg (.int (nar .char x)) → Wp l R n0 K Q h' k n pc' Ls st) : Wp l R n0 K Q h k n pc Ls ((.int x) :: .int j :: .ref a :: st) := by
  obtain ⟨p, e, s, m, args, below, meth, c⟩ := K
  obtain ⟨hx, hby, hZ, hown, hnm, hml, hret, hlk⟩ := ok
  obtain ⟨hd, rfl⟩ := hd
  intro T locs X hT hF
  obtain ⟨T', h', X', e', W', stp⟩ := stC X hx hZ hT A hj (g := mkF m pc Ls ((.int x) :: .int j :: .ref a :: st)) rfl rfl (hb hby hd)
  obtain ⟨s₂, o, h1, h2⟩ := hr h' W' T' _ X' e' (Fr.snoc X' hF ha)
  exact ⟨s₂, o, stp _ h1, h2⟩
theorem w_bastoreB (ok : Ok Z K code own nm maxL ret) {a : Addr} {cl : Cell} {j : Int32} {x : Int32} (A : Arr Z h a cl .byte) (hj : ¬ (j < 0 ∨ cl.slots.size ≤ j.toNatClampNeg)) (ha : n0 ≤ a) (hd : Fet code pc pc' .bastore 1)
    (hr : ∀ h', Wr h h' a j.toNatClampNeg (.int (nar .byte x)) → Wp l R n0 K Q h' k n pc' Ls st) : Wp l R n0 K Q h k n pc Ls ((.int x) :: .int j :: .ref a :: st) := by
  obtain ⟨p, e, s, m, args, below, meth, c⟩ := K
  obtain ⟨hx, hby, hZ, hown, hnm, hml, hret, hlk⟩ := ok
  obtain ⟨hd, rfl⟩ := hd
  intro T locs X hT hF
  obtain ⟨T', h', X', e', W', stp⟩ := stB X hx hZ hT A hj (g := mkF m pc Ls ((.int x) :: .int j :: .ref a :: st)) rfl rfl (hb hby hd)
  obtain ⟨s₂, o, h1, h2⟩ := hr h' W' T' _ X' e' (Fr.snoc X' hF ha)
  exact ⟨s₂, o, stp _ h1, h2⟩
theorem w_bastoreZ (ok : Ok Z K code own nm maxL ret) {a : Addr} {cl : Cell} {j : Int32} {x : Int32} (A : Arr Z h a cl .boolean) (hj : ¬ (j < 0 ∨ cl.slots.size ≤ j.toNatClampNeg)) (ha : n0 ≤ a) (hd : Fet code pc pc' .bastore 1)
    (hr : ∀ h', Wr h h' a j.toNatClampNeg (.int (nar .boolean x)) → Wp l R n0 K Q h' k n pc' Ls st) : Wp l R n0 K Q h k n pc Ls ((.int x) :: .int j :: .ref a :: st) := by
  obtain ⟨p, e, s, m, args, below, meth, c⟩ := K
  obtain ⟨hx, hby, hZ, hown, hnm, hml, hret, hlk⟩ := ok
  obtain ⟨hd, rfl⟩ := hd
  intro T locs X hT hF
  obtain ⟨T', h', X', e', W', stp⟩ := stZ X hx hZ hT A hj (g := mkF m pc Ls ((.int x) :: .int j :: .ref a :: st)) rfl rfl (hb hby hd)
  obtain ⟨s₂, o, h1, h2⟩ := hr h' W' T' _ X' e' (Fr.snoc X' hF ha)
  exact ⟨s₂, o, stp _ h1, h2⟩
theorem w_callSV (ok : Ok Z K code own nm maxL ret) {y : MethodName} {bytes : ByteArray} {mL i : Nat} {rt : Option FieldType} {rm : Room} {Qc : Value → Heap → Prop} {argsL : List Value}  (w1 : (Cond.methodLink own i y).before a0 Z = true) (w2 : (Cond.static y).before a0 Z = true) (wz : (Cond.initialized y.cls).before a0 Z = true) (wc : (Cond.code y bytes mL rt).before a0 Z = true) (hy : y.cls ≠ "java/lang/invoke/MethodHandle" ∧ y.cls ≠ "java/lang/invoke/VarHandle")
    (hM : ConV l Z n0 y bytes mL rt [] rm (argsL).toArray h Qc) (hd : Fet code pc pc' (.invokestatic i) 3) (hlen : ∀ sig, parseMethodDescriptor y.desc = some sig → argsL.length = sig.parameters.length) (hst : st = argsL.reverse ++ rest) (hsz : Ls.size = maxL) (hf : rm.frames + 1 ≤ R.frames) (hl : (rest.map fun v => v.category).sum + (mL + 11) + rm.locals ≤ R.locals)
    (ek : k + rm.cells = k') (en : n + rm.slots = n') (hc : k' ≤ R.cells) (hs : n' ≤ R.slots) (hr : ∀ w h', Qc w h' → Wp l R n0 K Q h' k' n' pc' Ls (w :: rest)) : Wp l R n0 K Q h k n pc Ls st := by
  obtain ⟨p, e, s, m, args, below, meth, c⟩ := K
  obtain ⟨hx, hby, hZ, hown, hnm, hml, hret, hlk⟩ := ok
  obtain ⟨hd, rfl⟩ := hd
  intro T locs X hT hF
  subst hst ek en
  obtain ⟨v, _, ⟨T', L', k1, n1⟩, -, X', ⟨Lc, hQ, l1, y1, z1⟩, stp⟩ := Jvm.LawKit.callS X hx (y := y) hown (mvT hZ w1) (mvT hZ w2) (mvT hZ wz) (mvT hZ wc) hy (backOf (W := (rest.map fun v => v.category).sum) (Q := fun v h' L => (∃ w, v = some w ∧ Qc w h') ∧ Fr n0 L) (as' := (argsL).toArray) (rm := rm) (bytes := bytes) (maxL := mL) (ret := rt) (h := h) (Z := Z) hM hZ wc wz hf hl) (g := mkF m pc Ls (argsL.reverse ++ rest)) rfl (hsz.trans hml.symm) (argsL := argsL) (rest := rest) hlen rfl (by show 2 * 0 + _ ≤ _; omega) (hb hby hd) (fun _ _ => ⟨rfl, hT, hc, hs⟩)
  dsimp only [Pt.U, Pt.locs, Pt.cells, Pt.slots] at X' l1 y1 z1 stp hQ
  subst l1 y1 z1

  obtain ⟨⟨w, rfl, hQ⟩, hFc⟩ := hQ
  obtain ⟨s₂, o, h1, h2⟩ := hr _ _ hQ T' _ X' rfl (Fr.app hF hFc)
  exact ⟨s₂, o, stp _ h1, h2⟩
theorem w_callSN (ok : Ok Z K code own nm maxL ret) {y : MethodName} {bytes : ByteArray} {mL i : Nat} {rt : Option FieldType} {rm : Room} {Qc : Heap → Prop} {argsL : List Value}  (w1 : (Cond.methodLink own i y).before a0 Z = true) (w2 : (Cond.static y).before a0 Z = true) (wz : (Cond.initialized y.cls).before a0 Z = true) (wc : (Cond.code y bytes mL rt).before a0 Z = true) (hy : y.cls ≠ "java/lang/invoke/MethodHandle" ∧ y.cls ≠ "java/lang/invoke/VarHandle")
    (hM : ConN l Z n0 y bytes mL rt [] rm (argsL).toArray h Qc) (hd : Fet code pc pc' (.invokestatic i) 3) (hlen : ∀ sig, parseMethodDescriptor y.desc = some sig → argsL.length = sig.parameters.length) (hst : st = argsL.reverse ++ rest) (hsz : Ls.size = maxL) (hf : rm.frames + 1 ≤ R.frames) (hl : (rest.map fun v => v.category).sum + (mL + 11) + rm.locals ≤ R.locals)
    (ek : k + rm.cells = k') (en : n + rm.slots = n') (hc : k' ≤ R.cells) (hs : n' ≤ R.slots) (hr : ∀ h', Qc h' → Wp l R n0 K Q h' k' n' pc' Ls rest) : Wp l R n0 K Q h k n pc Ls st := by
  obtain ⟨p, e, s, m, args, below, meth, c⟩ := K
  obtain ⟨hx, hby, hZ, hown, hnm, hml, hret, hlk⟩ := ok
  obtain ⟨hd, rfl⟩ := hd
  intro T locs X hT hF
  subst hst ek en
  obtain ⟨v, _, ⟨T', L', k1, n1⟩, -, X', ⟨Lc, hQ, l1, y1, z1⟩, stp⟩ := Jvm.LawKit.callS X hx (y := y) hown (mvT hZ w1) (mvT hZ w2) (mvT hZ wz) (mvT hZ wc) hy (backOf (W := (rest.map fun v => v.category).sum) (Q := fun v h' L => (v = none ∧ Qc h') ∧ Fr n0 L) (as' := (argsL).toArray) (rm := rm) (bytes := bytes) (maxL := mL) (ret := rt) (h := h) (Z := Z) hM hZ wc wz hf hl) (g := mkF m pc Ls (argsL.reverse ++ rest)) rfl (hsz.trans hml.symm) (argsL := argsL) (rest := rest) hlen rfl (by show 2 * 0 + _ ≤ _; omega) (hb hby hd) (fun _ _ => ⟨rfl, hT, hc, hs⟩)
  dsimp only [Pt.U, Pt.locs, Pt.cells, Pt.slots] at X' l1 y1 z1 stp hQ
  subst l1 y1 z1

  obtain ⟨⟨rfl, hQ⟩, hFc⟩ := hQ
  obtain ⟨s₂, o, h1, h2⟩ := hr _ hQ T' _ X' rfl (Fr.app hF hFc)
  exact ⟨s₂, o, stp _ h1, h2⟩
theorem w_init (ok : Ok Z K code own nm maxL ret) {y : MethodName} {bytes : ByteArray} {mL i : Nat} {rt : Option FieldType} {rm : Room} {Qc : Heap → Prop} {argsL : List Value} {a : Addr} (hy1 : y.name = "<init>") (hrt : rt = none) (w1 : (Cond.methodLink own i y).before a0 Z = true) (w2 : (Cond.instanceMethod y).before a0 Z = true) (wz : (Cond.initialized y.cls).before a0 Z = true) (wc : (Cond.code y bytes mL rt).before a0 Z = true) (hy : y.cls ≠ "java/lang/invoke/MethodHandle" ∧ y.cls ≠ "java/lang/invoke/VarHandle")
    (hM : ConN l Z n0 y bytes mL rt [] rm (.ref a :: argsL).toArray h Qc) (hd : Fet code pc pc' (.invokespecial i) 3) (hlen : ∀ sig, parseMethodDescriptor y.desc = some sig → argsL.length = sig.parameters.length) (hst : st = argsL.reverse ++ .ref a :: rest) (hsz : Ls.size = maxL) (hf : rm.frames + 1 ≤ R.frames) (hl : (rest.map fun v => v.category).sum + (mL + 11) + rm.locals ≤ R.locals)
    (ek : k + rm.cells = k') (en : n + rm.slots = n') (hc : k' ≤ R.cells) (hs : n' ≤ R.slots) (hr : ∀ h', Qc h' → Wp l R n0 K Q h' k' n' pc' Ls rest) : Wp l R n0 K Q h k n pc Ls st := by
  obtain ⟨p, e, s, m, args, below, meth, c⟩ := K
  obtain ⟨hx, hby, hZ, hown, hnm, hml, hret, hlk⟩ := ok
  obtain ⟨hd, rfl⟩ := hd
  intro T locs X hT hF
  subst hst ek en
  subst hrt
  obtain ⟨v, _, ⟨T', L', k1, n1⟩, -, X', ⟨Lc, hQ, l1, y1, z1⟩, stp⟩ := X.specialBack hx (y := y) hy1 hown (mvT hZ w1) (mvT hZ w2) (mvT hZ wc) hy (backOf (W := (rest.map fun v => v.category).sum) (Q := fun v h' L => (v = none ∧ Qc h') ∧ Fr n0 L) (as' := (Value.ref a :: argsL).toArray) (rm := rm) (bytes := bytes) (maxL := mL) (ret := none) (h := h) (Z := Z) hM hZ wc wz hf hl) (g := mkF m pc Ls (argsL.reverse ++ .ref a :: rest)) rfl (hsz.trans hml.symm) (Steps.refl _) (a := a) (argsL := argsL) (rest := rest) hlen rfl (by show 2 * 0 + _ ≤ _; omega) (hb hby hd) (fun _ _ => ⟨rfl, hT, hc, hs⟩)
  dsimp only [Pt.U, Pt.locs, Pt.cells, Pt.slots] at X' l1 y1 z1 stp hQ
  subst l1 y1 z1

  obtain ⟨⟨rfl, hQ⟩, hFc⟩ := hQ
  obtain ⟨s₂, o, h1, h2⟩ := hr _ hQ T' _ X' rfl (Fr.app hF hFc)
  exact ⟨s₂, o, stp.trans h1, h2⟩
theorem w_virtV (ok : Ok Z K code own nm maxL ret) {y : MethodName} {bytes : ByteArray} {mL i : Nat} {rt : Option FieldType} {rm : Room} {Qc : Value → Heap → Prop} {argsL : List Value} {a : Addr} {C : String} (w1 : (Cond.methodLink own i y).before a0 Z = true) (w2 : (Cond.declares y).before a0 Z = true) (w3 : (Cond.selects C y y).before a0 Z = true) (w4 : (Cond.instanceMethod y).before a0 Z = true) (wz : (Cond.initialized y.cls).before a0 Z = true) (wc : (Cond.code y bytes mL rt).before a0 Z = true) (E : Exa Z h a C) (hy : y.cls ≠ "java/lang/invoke/MethodHandle" ∧ y.cls ≠ "java/lang/invoke/VarHandle")
    (hM : ConV l Z n0 y bytes mL rt [] rm (.ref a :: argsL).toArray h Qc) (hd : Fet code pc pc' (.invokevirtual i) 3) (hlen : ∀ sig, parseMethodDescriptor y.desc = some sig → argsL.length = sig.parameters.length) (hst : st = argsL.reverse ++ .ref a :: rest) (hsz : Ls.size = maxL) (hf : rm.frames + 1 ≤ R.frames) (hl : (rest.map fun v => v.category).sum + (mL + 11) + rm.locals ≤ R.locals)
    (ek : k + rm.cells = k') (en : n + rm.slots = n') (hc : k' ≤ R.cells) (hs : n' ≤ R.slots) (hr : ∀ w h', Qc w h' → Wp l R n0 K Q h' k' n' pc' Ls (w :: rest)) : Wp l R n0 K Q h k n pc Ls st := by
  obtain ⟨p, e, s, m, args, below, meth, c⟩ := K
  obtain ⟨hx, hby, hZ, hown, hnm, hml, hret, hlk⟩ := ok
  obtain ⟨hd, rfl⟩ := hd
  intro T locs X hT hF
  subst hst ek en
  obtain ⟨cB, kB, qa, qb, qc⟩ := isOf hZ hT E
  obtain ⟨v, _, ⟨T', L', k1, n1⟩, -, X', ⟨Lc, hQ, l1, y1, z1⟩, stp⟩ := X.virtualBack hx (y := y) (z := y) hown (mvT hZ w1) (mvT hZ w2) (notFace_of_selects (args := #[]) (mvT hZ w3)) (mvT hZ w3) (mvT hZ w4) hy (backOf (W := (rest.map fun v => v.category).sum) (Q := fun v h' L => (∃ w, v = some w ∧ Qc w h') ∧ Fr n0 L) (as' := (Value.ref a :: argsL).toArray) (rm := rm) (bytes := bytes) (maxL := mL) (ret := rt) (h := h) (Z := Z) hM hZ wc wz hf hl) qa qc (g := mkF m pc Ls (argsL.reverse ++ .ref a :: rest)) rfl (hsz.trans hml.symm) (Steps.refl _) (argsL := argsL) (rest := rest) hlen rfl (by show 2 * 0 + _ ≤ _; omega) (hb hby hd) (fun _ _ => ⟨rfl, hT, hc, hs⟩)
  dsimp only [Pt.U, Pt.locs, Pt.cells, Pt.slots] at X' l1 y1 z1 stp hQ
  subst l1 y1 z1

  obtain ⟨⟨w, rfl, hQ⟩, hFc⟩ := hQ
  obtain ⟨s₂, o, h1, h2⟩ := hr _ _ hQ T' _ X' rfl (Fr.app hF hFc)
  exact ⟨s₂, o, stp.trans h1, h2⟩
theorem w_virtN (ok : Ok Z K code own nm maxL ret) {y : MethodName} {bytes : ByteArray} {mL i : Nat} {rt : Option FieldType} {rm : Room} {Qc : Heap → Prop} {argsL : List Value} {a : Addr} {C : String} (w1 : (Cond.methodLink own i y).before a0 Z = true) (w2 : (Cond.declares y).before a0 Z = true) (w3 : (Cond.selects C y y).before a0 Z = true) (w4 : (Cond.instanceMethod y).before a0 Z = true) (wz : (Cond.initialized y.cls).before a0 Z = true) (wc : (Cond.code y bytes mL rt).before a0 Z = true) (E : Exa Z h a C) (hy : y.cls ≠ "java/lang/invoke/MethodHandle" ∧ y.cls ≠ "java/lang/invoke/VarHandle")
    (hM : ConN l Z n0 y bytes mL rt [] rm (.ref a :: argsL).toArray h Qc) (hd : Fet code pc pc' (.invokevirtual i) 3) (hlen : ∀ sig, parseMethodDescriptor y.desc = some sig → argsL.length = sig.parameters.length) (hst : st = argsL.reverse ++ .ref a :: rest) (hsz : Ls.size = maxL) (hf : rm.frames + 1 ≤ R.frames) (hl : (rest.map fun v => v.category).sum + (mL + 11) + rm.locals ≤ R.locals)
    (ek : k + rm.cells = k') (en : n + rm.slots = n') (hc : k' ≤ R.cells) (hs : n' ≤ R.slots) (hr : ∀ h', Qc h' → Wp l R n0 K Q h' k' n' pc' Ls rest) : Wp l R n0 K Q h k n pc Ls st := by
  obtain ⟨p, e, s, m, args, below, meth, c⟩ := K
  obtain ⟨hx, hby, hZ, hown, hnm, hml, hret, hlk⟩ := ok
  obtain ⟨hd, rfl⟩ := hd
  intro T locs X hT hF
  subst hst ek en
  obtain ⟨cB, kB, qa, qb, qc⟩ := isOf hZ hT E
  obtain ⟨v, _, ⟨T', L', k1, n1⟩, -, X', ⟨Lc, hQ, l1, y1, z1⟩, stp⟩ := X.virtualBack hx (y := y) (z := y) hown (mvT hZ w1) (mvT hZ w2) (notFace_of_selects (args := #[]) (mvT hZ w3)) (mvT hZ w3) (mvT hZ w4) hy (backOf (W := (rest.map fun v => v.category).sum) (Q := fun v h' L => (v = none ∧ Qc h') ∧ Fr n0 L) (as' := (Value.ref a :: argsL).toArray) (rm := rm) (bytes := bytes) (maxL := mL) (ret := rt) (h := h) (Z := Z) hM hZ wc wz hf hl) qa qc (g := mkF m pc Ls (argsL.reverse ++ .ref a :: rest)) rfl (hsz.trans hml.symm) (Steps.refl _) (argsL := argsL) (rest := rest) hlen rfl (by show 2 * 0 + _ ≤ _; omega) (hb hby hd) (fun _ _ => ⟨rfl, hT, hc, hs⟩)
  dsimp only [Pt.U, Pt.locs, Pt.cells, Pt.slots] at X' l1 y1 z1 stp hQ
  subst l1 y1 z1

  obtain ⟨⟨rfl, hQ⟩, hFc⟩ := hQ
  obtain ⟨s₂, o, h1, h2⟩ := hr _ hQ T' _ X' rfl (Fr.app hF hFc)
  exact ⟨s₂, o, stp.trans h1, h2⟩
end Rules
/-- an array of this kind with these values -/
def Ary (Z : State) (h : Heap) (a : Addr) (ty : FieldType) (vs : List Value) : Prop := ∃ c : Cell, Arr Z h a c ty ∧ c.slots.toList = vs
section AryFacts
variable {Z : State} {h h' : Heap} {a b : Addr} {ty : FieldType} {vs : List Value} {v : Value} {sl i : Nat} {ws : List Addr}
theorem Ary.lt (A : Ary Z h a ty vs) : a < h.size := by obtain ⟨c, A, -⟩ := A; exact A.lt
theorem Ary.ext (A : Ary Z h a ty vs) (E : Ext h h') : Ary Z h' a ty vs := by obtain ⟨c, A, r⟩ := A; exact ⟨c, A.ext E, r⟩
theorem Ary.other (A : Ary Z h b ty vs) (W : Wr h h' a sl v) (q : b ≠ a) : Ary Z h' b ty vs := by obtain ⟨c, A, r⟩ := A; exact ⟨c, A.other W q, r⟩
theorem Ary.keep (A : Ary Z h a ty vs) (K : Keep h h' ws) (q : a ∉ ws) : Ary Z h' a ty vs := by obtain ⟨c, A, r⟩ := A; exact ⟨c, ⟨K.2.1 a c A.1 q, A.2⟩, r⟩
theorem Ary.same (A : Ary Z h a ty vs) (W : Wr h h' a i v) : Ary Z h' a ty (vs.set i v) := by
  obtain ⟨c, A, r⟩ := A
  refine ⟨_, A.same W, ?_⟩
  rw [← r]
  simp [Cell.setSlot, Array.toList_setIfInBounds]
theorem Ary.cast {vs' : List Value} (A : Ary Z h a ty vs) (e : vs = vs') : Ary Z h a ty vs' := e ▸ A
theorem ary_new {cA : ClassId} {z : Int32} (A : Arr Z h a (newA cA ty z) ty) : Ary Z h a ty (List.replicate z.toNatClampNeg (defaultValue ty)) := ⟨_, A, by simp [newA]⟩
theorem idx_ok {i n : Nat} (hi : i < n) (hn : n < 2 ^ 31) : ¬ (Int32.ofNat i < 0 ∨ n ≤ (Int32.ofNat i).toNatClampNeg) := idx_in hi hn
theorem idx_nat {i : Nat} (hi : i < 2 ^ 31) : (Int32.ofNat i).toNatClampNeg = i := by
  have q : (Int32.ofNat i).toInt = i := Int32.toInt_ofNat_of_lt (by omega)
  simp only [Int32.toNatClampNeg, q]; omega
end AryFacts
section AryRules
variable {l : Launch} {R : Room} {n0 : Nat} {K : Cx} {Q : Option Value → Heap → Prop} {h : Heap} {k n k' n' : Nat} {pc pc' : Nat} {Ls Ls' : Array Slot} {st rest : List Value} {Z : State} {code : ByteArray} {own nm : String} {maxL : Nat} {ret : Option FieldType} {a0 : Array Value}
theorem w_arraylength (ok : Ok Z K code own nm maxL ret) {a : Addr} {ty : FieldType} {vs : List Value} (A : Ary Z h a ty vs) (hd : Fet code pc pc' .arraylength 1) (hr : Wp l R n0 K Q h k n pc' Ls (.int (Int32.ofNat vs.length) :: st)) : Wp l R n0 K Q h k n pc Ls (.ref a :: st) := by
  obtain ⟨p, e, s, m, args, below, meth, c⟩ := K
  obtain ⟨hx, hby, hZ, hown, hnm, hml, hret, hlk⟩ := ok
  obtain ⟨hd, rfl⟩ := hd
  intro T locs X hT hF
  obtain ⟨c, A, rfl⟩ := A
  obtain ⟨s₂, o, h1, h2⟩ := hr T locs X hT hF
  exact ⟨s₂, o, X.arraylength hx (by rw [hT]; exact A.1) (State.isArrayOf_alike hZ.alike A.2.1) (g := mkF m pc Ls (.ref a :: st)) rfl rfl (hb hby hd) _ (by rw [Array.length_toList] at h1; exact h1), h2⟩
theorem w_iaload (ok : Ok Z K code own nm maxL ret) {a : Addr} {i : Nat} {v : Value} {vs : List Value} (A : Ary Z h a .int vs) (hl : vs.length < 2 ^ 31) (hv : vs[i]? = some v) (hd : Fet code pc pc' .iaload 1) (hr : Wp l R n0 K Q h k n pc' Ls (v :: st)) : Wp l R n0 K Q h k n pc Ls (.int (Int32.ofNat i) :: .ref a :: st) := by
  obtain ⟨p, e, s, m, args, below, meth, c⟩ := K
  obtain ⟨hx, hby, hZ, hown, hnm, hml, hret, hlk⟩ := ok
  obtain ⟨hd, rfl⟩ := hd
  intro T locs X hT hF
  obtain ⟨c, A, rfl⟩ := A
  obtain ⟨s₂, o, h1, h2⟩ := hr T locs X hT hF
  have hi : i < c.slots.toList.length := (List.getElem?_eq_some_iff.mp hv).1
  rw [Array.length_toList] at hi hl
  exact ⟨s₂, o, X.iaload hx (j := Int32.ofNat i) (v := v) (by rw [hT]; exact A.1) (State.isArrayOf_alike hZ.alike A.2.1) A.2.2 (idx_ok hi hl) (by rw [idx_nat (Nat.lt_trans hi hl), ← hv, Array.getElem?_toList]) (g := mkF m pc Ls (.int (Int32.ofNat i) :: .ref a :: st)) rfl rfl (hb hby hd) _ h1, h2⟩
theorem w_laload (ok : Ok Z K code own nm maxL ret) {a : Addr} {i : Nat} {v : Value} {vs : List Value} (A : Ary Z h a .long vs) (hl : vs.length < 2 ^ 31) (hv : vs[i]? = some v) (hd : Fet code pc pc' .laload 1) (hr : Wp l R n0 K Q h k n pc' Ls (v :: st)) : Wp l R n0 K Q h k n pc Ls (.int (Int32.ofNat i) :: .ref a :: st) := by
  obtain ⟨p, e, s, m, args, below, meth, c⟩ := K
  obtain ⟨hx, hby, hZ, hown, hnm, hml, hret, hlk⟩ := ok
  obtain ⟨hd, rfl⟩ := hd
  intro T locs X hT hF
  obtain ⟨c, A, rfl⟩ := A
  obtain ⟨s₂, o, h1, h2⟩ := hr T locs X hT hF
  have hi : i < c.slots.toList.length := (List.getElem?_eq_some_iff.mp hv).1
  rw [Array.length_toList] at hi hl
  exact ⟨s₂, o, X.laload hx (j := Int32.ofNat i) (v := v) (by rw [hT]; exact A.1) (State.isArrayOf_alike hZ.alike A.2.1) A.2.2 (idx_ok hi hl) (by rw [idx_nat (Nat.lt_trans hi hl), ← hv, Array.getElem?_toList]) (g := mkF m pc Ls (.int (Int32.ofNat i) :: .ref a :: st)) rfl rfl (hb hby hd) _ h1, h2⟩
theorem w_baloadB (ok : Ok Z K code own nm maxL ret) {a : Addr} {i : Nat} {v : Value} {vs : List Value} (A : Ary Z h a .byte vs) (hl : vs.length < 2 ^ 31) (hv : vs[i]? = some v) (hd : Fet code pc pc' .baload 1) (hr : Wp l R n0 K Q h k n pc' Ls (v :: st)) : Wp l R n0 K Q h k n pc Ls (.int (Int32.ofNat i) :: .ref a :: st) := by
  obtain ⟨p, e, s, m, args, below, meth, c⟩ := K
  obtain ⟨hx, hby, hZ, hown, hnm, hml, hret, hlk⟩ := ok
  obtain ⟨hd, rfl⟩ := hd
  intro T locs X hT hF
  obtain ⟨c, A, rfl⟩ := A
  obtain ⟨s₂, o, h1, h2⟩ := hr T locs X hT hF
  have hi : i < c.slots.toList.length := (List.getElem?_eq_some_iff.mp hv).1
  rw [Array.length_toList] at hi hl
  exact ⟨s₂, o, X.baloadBytes hx (j := Int32.ofNat i) (v := v) (by rw [hT]; exact A.1) (State.isArrayOf_alike hZ.alike A.2.1) A.2.2 (idx_ok hi hl) (by rw [idx_nat (Nat.lt_trans hi hl), ← hv, Array.getElem?_toList]) (g := mkF m pc Ls (.int (Int32.ofNat i) :: .ref a :: st)) rfl rfl (hb hby hd) _ h1, h2⟩
theorem w_baloadZ (ok : Ok Z K code own nm maxL ret) {a : Addr} {i : Nat} {v : Value} {vs : List Value} (A : Ary Z h a .boolean vs) (hl : vs.length < 2 ^ 31) (hv : vs[i]? = some v) (hd : Fet code pc pc' .baload 1) (hr : Wp l R n0 K Q h k n pc' Ls (v :: st)) : Wp l R n0 K Q h k n pc Ls (.int (Int32.ofNat i) :: .ref a :: st) := by
  obtain ⟨p, e, s, m, args, below, meth, c⟩ := K
  obtain ⟨hx, hby, hZ, hown, hnm, hml, hret, hlk⟩ := ok
  obtain ⟨hd, rfl⟩ := hd
  intro T locs X hT hF
  obtain ⟨c, A, rfl⟩ := A
  obtain ⟨s₂, o, h1, h2⟩ := hr T locs X hT hF
  have hi : i < c.slots.toList.length := (List.getElem?_eq_some_iff.mp hv).1
  rw [Array.length_toList] at hi hl
  exact ⟨s₂, o, X.baloadBooleans hx (j := Int32.ofNat i) (v := v) (by rw [hT]; exact A.1) (State.isArrayOf_alike hZ.alike A.2.1) A.2.2 (idx_ok hi hl) (by rw [idx_nat (Nat.lt_trans hi hl), ← hv, Array.getElem?_toList]) (g := mkF m pc Ls (.int (Int32.ofNat i) :: .ref a :: st)) rfl rfl (hb hby hd) _ h1, h2⟩
theorem w_iastore' (ok : Ok Z K code own nm maxL ret) {a : Addr} {i : Nat} {x : Int32} {vs : List Value} (A : Ary Z h a .int vs) (hl : vs.length < 2 ^ 31) (hi : i < vs.length) (ha : n0 ≤ a) (hd : Fet code pc pc' .iastore 1)
    (hr : ∀ h', Wr h h' a i (.int x) → Ary Z h' a .int (vs.set i (.int x)) → Wp l R n0 K Q h' k n pc' Ls st) : Wp l R n0 K Q h k n pc Ls ((.int x) :: .int (Int32.ofNat i) :: .ref a :: st) := by
  have A0 := A
  obtain ⟨c, A, rfl⟩ := A
  rw [Array.length_toList] at hi hl
  refine w_iastore ok A (idx_ok hi hl) ha hd (fun h' W => ?_)
  rw [idx_nat (Nat.lt_trans hi hl)] at W
  exact hr h' W (A0.same W)
theorem w_lastore' (ok : Ok Z K code own nm maxL ret) {a : Addr} {i : Nat} {x : Int64} {vs : List Value} (A : Ary Z h a .long vs) (hl : vs.length < 2 ^ 31) (hi : i < vs.length) (ha : n0 ≤ a) (hd : Fet code pc pc' .lastore 1)
    (hr : ∀ h', Wr h h' a i (.long x) → Ary Z h' a .long (vs.set i (.long x)) → Wp l R n0 K Q h' k n pc' Ls st) : Wp l R n0 K Q h k n pc Ls ((.long x) :: .int (Int32.ofNat i) :: .ref a :: st) := by
  have A0 := A
  obtain ⟨c, A, rfl⟩ := A
  rw [Array.length_toList] at hi hl
  refine w_lastore ok A (idx_ok hi hl) ha hd (fun h' W => ?_)
  rw [idx_nat (Nat.lt_trans hi hl)] at W
  exact hr h' W (A0.same W)
theorem w_bastoreB' (ok : Ok Z K code own nm maxL ret) {a : Addr} {i : Nat} {x : Int32} {vs : List Value} (A : Ary Z h a .byte vs) (hl : vs.length < 2 ^ 31) (hi : i < vs.length) (ha : n0 ≤ a) (hd : Fet code pc pc' .bastore 1)
    (hr : ∀ h', Wr h h' a i (.int (nar .byte x)) → Ary Z h' a .byte (vs.set i (.int (nar .byte x))) → Wp l R n0 K Q h' k n pc' Ls st) : Wp l R n0 K Q h k n pc Ls ((.int x) :: .int (Int32.ofNat i) :: .ref a :: st) := by
  have A0 := A
  obtain ⟨c, A, rfl⟩ := A
  rw [Array.length_toList] at hi hl
  refine w_bastoreB ok A (idx_ok hi hl) ha hd (fun h' W => ?_)
  rw [idx_nat (Nat.lt_trans hi hl)] at W
  exact hr h' W (A0.same W)
theorem w_bastoreZ' (ok : Ok Z K code own nm maxL ret) {a : Addr} {i : Nat} {x : Int32} {vs : List Value} (A : Ary Z h a .boolean vs) (hl : vs.length < 2 ^ 31) (hi : i < vs.length) (ha : n0 ≤ a) (hd : Fet code pc pc' .bastore 1)
    (hr : ∀ h', Wr h h' a i (.int (nar .boolean x)) → Ary Z h' a .boolean (vs.set i (.int (nar .boolean x))) → Wp l R n0 K Q h' k n pc' Ls st) : Wp l R n0 K Q h k n pc Ls ((.int x) :: .int (Int32.ofNat i) :: .ref a :: st) := by
  have A0 := A
  obtain ⟨c, A, rfl⟩ := A
  rw [Array.length_toList] at hi hl
  refine w_bastoreZ ok A (idx_ok hi hl) ha hd (fun h' W => ?_)
  rw [idx_nat (Nat.lt_trans hi hl)] at W
  exact hr h' W (A0.same W)
end AryRules
end Jvm.WpK
namespace Jvm.Pilot.@@N@@
open Jvm Jvm.ClassFile Sem Op Lib Jvm.Free Jvm.Stand Jvm.LawKit Jvm.RoadKit Jvm.WpK Bundle Jvm.Pilot.@@N@@.Jvm.D
/-- x >>> k of a long, as the step leaves it -/
abbrev own_sr (x : Int64) (k : Int32) : Int64 := (x.toUInt64 >>> (k &&& 0x3f).toInt64.toUInt64).toInt64
def own_mix (x : Int64) : Int64 :=
  let z1 := (x ^^^ own_sr x 30) * (-4658895280553007687)
  let z2 := (z1 ^^^ own_sr z1 27) * (-7723592293110705685)
  z2 ^^^ own_sr z2 31
def own_k1 : Int64 := -7575587736534282103
def own_k2 : Int64 := 3573116690164977347
def own_un (r : Int64) : Int64 :=
  let y1 := (r ^^^ own_sr r 31) ^^^ own_sr r 62
  let y2 := y1 * own_k2
  let y3 := (y2 ^^^ own_sr y2 27) ^^^ own_sr y2 54
  let y4 := y3 * own_k1
  (y4 ^^^ own_sr y4 30) ^^^ own_sr y4 60
theorem own_bits (x : BitVec 64) (k : Nat) (hk : 64 ≤ 3 * k) : ((x ^^^ x >>> k) ^^^ (x ^^^ x >>> k) >>> k) ^^^ (x ^^^ x >>> k) >>> (2 * k) = x := by
  ext i hi
  simp only [BitVec.getElem_xor, BitVec.getElem_ushiftRight, BitVec.getLsbD_xor, BitVec.getLsbD_ushiftRight]
  have e1 : k + (k + i) = 2 * k + i := by omega
  have e2 : x.getLsbD (k + (2 * k + i)) = false := BitVec.getLsbD_of_ge _ _ (by omega)
  rw [e1, e2]
  cases x[i] <;> cases x.getLsbD (k + i) <;> cases x.getLsbD (2 * k + i) <;> rfl
theorem own_uns31 (x : Int64) : ((x ^^^ own_sr x 31) ^^^ own_sr (x ^^^ own_sr x 31) 31) ^^^ own_sr (x ^^^ own_sr x 31) 62 = x := by
  apply Int64.toBitVec_inj.mp
  exact own_bits x.toBitVec 31 (by decide)
theorem own_uns27 (x : Int64) : ((x ^^^ own_sr x 27) ^^^ own_sr (x ^^^ own_sr x 27) 27) ^^^ own_sr (x ^^^ own_sr x 27) 54 = x := by
  apply Int64.toBitVec_inj.mp
  exact own_bits x.toBitVec 27 (by decide)
theorem own_uns30 (x : Int64) : ((x ^^^ own_sr x 30) ^^^ own_sr (x ^^^ own_sr x 30) 30) ^^^ own_sr (x ^^^ own_sr x 30) 60 = x := by
  apply Int64.toBitVec_inj.mp
  exact own_bits x.toBitVec 30 (by decide)
theorem own_k1_inv (x : Int64) : x * (-4658895280553007687) * own_k1 = x := by
  rw [Int64.mul_assoc, show (-4658895280553007687 : Int64) * own_k1 = 1 by decide, Int64.mul_one]
theorem own_k2_inv (x : Int64) : x * (-7723592293110705685) * own_k2 = x := by
  rw [Int64.mul_assoc, show (-7723592293110705685 : Int64) * own_k2 = 1 by decide, Int64.mul_one]
theorem own_un_mix (x : Int64) : own_un (own_mix x) = x := by
  unfold own_un own_mix
  simp only []
  rw [own_uns31, own_k2_inv, own_uns27, own_k1_inv, own_uns30]
abbrev own_g : Int64 := -7046029254386353131
theorem own_next {m : Nat} {s t : Int64} (hn : s + Int64.ofNat (m + 1 + 1) * own_g = t) : s + own_g + Int64.ofNat (m + 1) * own_g = t := by
  rw [← hn, Int64.ofNat_add (m + 1) 1, Int64.add_mul, Int64.add_assoc, Int64.add_comm own_g]
  congr 2
theorem own_reach (s t : Int64) : ∃ n : Nat, s + Int64.ofNat (n + 1) * own_g = t := by
  refine ⟨((t - s) * (-1018231460777725123)).toBitVec.toNat + (2 ^ 64 - 1), ?_⟩
  have e : ∀ y : Int64, Int64.ofNat (y.toBitVec.toNat + (2 ^ 64 - 1) + 1) = y := fun y => by
    apply Int64.toBitVec_inj.mp
    apply BitVec.eq_of_toNat_eq
    have hy := y.toBitVec.isLt
    show (BitVec.ofNat 64 (y.toBitVec.toNat + (2 ^ 64 - 1) + 1)).toNat = _
    rw [BitVec.toNat_ofNat]
    omega
  rw [e, Int64.mul_assoc, show (-1018231460777725123 : Int64) * own_g = 1 by decide, Int64.mul_one, Int64.add_comm]
  apply Int64.toBitVec_inj.mp
  simp only [Int64.toBitVec_add, Int64.toBitVec_sub]
  bv_omega
def own_cmp (x y : Int64) : Int32 := if x < y then -1 else if x = y then 0 else 1
def own_cmpU (x y : Int64) : Int32 := own_cmp (x + (-9223372036854775808 : Int64)) (y + (-9223372036854775808 : Int64))
def own_remU (x y : Int64) : Int64 :=
  let q := (own_sr x 1 / y) <<< ((1 : Int32) &&& 0x3f).toInt64
  let r := x - q * y
  r - ((((r - y) ^^^ (-1 : Int64)) >>> ((63 : Int32) &&& 0x3f).toInt64) &&& y)
def own_ref (m : Int64) : Int64 := own_remU (-m) m
def own_two (m : Int64) : Int64 := let t := ((9223372036854775807 : Int64) % m + 1) % m; ((2 : Int64) * t) % m
def own_accd (d e : Int64) : Int32 := if d < 0 then 1 else if d < e then 0 else 1
def own_urem (d m : Int64) : Int64 :=
  if d < 0 then
    let q := (own_sr d 1 / m) <<< ((1 : Int32) &&& 0x3f).toInt64
    let r := d - q * m
    if r < m then r else r - m
  else d % m
/-- the state whose draw is the greatest -/
def own_top : Int64 := own_un (-1)
def own_acc (m d : Int64) : Prop := ¬ own_cmpU d (own_ref m) < 0
def own_hist (b q s : Int64) : Prop := s = q ∨ (s = q + own_g ∧ ¬ own_acc b (own_mix (q + own_g))) ∨ (¬ own_acc b (own_mix (q + own_g)) ∧ ¬ own_acc b (own_mix (q + own_g + own_g)))
def own_post (b q : Int64) (r : Int32) (s : Int64) : Prop := (¬ r < 0 ∧ r < b.toInt32) ∧ (own_acc b (own_mix (q + own_g)) → r = (own_remU (own_mix (q + own_g)) b).toInt32 ∧ s = q + own_g) ∧ (¬ own_acc b (own_mix (q + own_g)) → own_acc b (own_mix (q + own_g + own_g)) → r = (own_remU (own_mix (q + own_g + own_g)) b).toInt32 ∧ s = q + own_g + own_g)
theorem own_max : (9223372036854775807 : Int64).toInt = 9223372036854775807 := by decide
theorem own_pos {b : Int64} (hb : 0 < b) : 0 < b.toInt := by
  have h := Int64.lt_iff_toInt_lt.mp hb
  simpa using h
theorem own_not_neg {r : Int64} (h : 0 < r) : ¬ r < 0 := by
  rw [Int64.lt_iff_toInt_lt] at h ⊢; omega
/-- a long as an unsigned number -/
abbrev own_u (x : Int64) : Nat := x.toBitVec.toNat
theorem own_u_int (x : Int64) : x.toInt = (own_u x : Int).bmod (2 ^ 64) := BitVec.toInt_eq_toNat_bmod x.toBitVec
theorem own_u_lt (x : Int64) : own_u x < 2 ^ 64 := x.toBitVec.isLt
theorem own_u_cases (x : Int64) : (x.toInt = (own_u x : Int) ∧ own_u x < 2 ^ 63) ∨ (x.toInt = (own_u x : Int) - 2 ^ 64 ∧ 2 ^ 63 ≤ own_u x) := by
  have h := own_u_int x
  have hl := own_u_lt x
  by_cases q : own_u x < 2 ^ 63
  · left
    rw [Int.bmod_eq_of_le (by omega) (by omega)] at h
    exact ⟨h, q⟩
  · right
    rw [← Int.sub_bmod_right, Int.bmod_eq_of_le (by omega) (by omega)] at h
    exact ⟨h, by omega⟩
theorem own_half (x : Int64) : (own_sr x 1).toInt = ((own_u x / 2 : Nat) : Int) := by
  have e1 : (own_sr x 1).toBitVec = x.toBitVec >>> 1 := rfl
  rw [Int64.toInt, e1, BitVec.toInt_eq_toNat_of_lt]
  · rw [BitVec.toNat_ushiftRight]; rfl
  · rw [BitVec.toNat_ushiftRight]
    have := x.toBitVec.isLt
    omega
theorem own_dbl (d : Int64) : d <<< ((1 : Int32) &&& 0x3f).toInt64 = d * 2 := by
  apply Int64.toBitVec_inj.mp
  have e1 : (d <<< ((1 : Int32) &&& 0x3f).toInt64).toBitVec = d.toBitVec <<< 1 := rfl
  rw [e1, Int64.toBitVec_mul]
  apply BitVec.eq_of_toNat_eq
  rw [BitVec.toNat_shiftLeft, BitVec.toNat_mul, Nat.shiftLeft_eq, show (Int64.toBitVec 2).toNat = 2 ^ 1 by decide]
theorem own_sign (z : Int64) : ((z ^^^ (-1 : Int64)) >>> ((63 : Int32) &&& 0x3f).toInt64) = if z < 0 then 0 else -1 := by
  have e0 : ((z ^^^ (-1 : Int64)) >>> ((63 : Int32) &&& 0x3f).toInt64).toBitVec = (z.toBitVec ^^^ BitVec.allOnes 64).sshiftRight 63 := rfl
  have e1 : ((z ^^^ (-1 : Int64)) >>> ((63 : Int32) &&& 0x3f).toInt64).toInt = (-z.toInt - 1) / 2 ^ 63 := by
    rw [Int64.toInt, e0, BitVec.toInt_sshiftRight, Int.shiftRight_eq_div_pow, BitVec.xor_allOnes, BitVec.toInt_not]
    have hz : z.toBitVec.toNat < 2 ^ 64 := z.toBitVec.isLt
    have hc : (z.toInt = (z.toBitVec.toNat : Int) ∧ z.toBitVec.toNat < 2 ^ 63) ∨ (z.toInt = (z.toBitVec.toNat : Int) - 2 ^ 64 ∧ 2 ^ 63 ≤ z.toBitVec.toNat) := own_u_cases z
    have e2 : ((2 ^ 64 - 1 - z.toBitVec.toNat : Int)).bmod (2 ^ 64) = -z.toInt - 1 := by
      rcases hc with ⟨h1, h2⟩ | ⟨h1, h2⟩
      · rw [← Int.sub_bmod_right, Int.bmod_eq_of_le (by omega) (by omega)]; omega
      · rw [Int.bmod_eq_of_le (by omega) (by omega)]; omega
    first | rw [e2] | (norm_cast at e2 ⊢; rw [e2])
    rfl
  have l1 := Int64.toInt_lt z
  have l2 := Int64.le_toInt z
  have zz : (0 : Int64).toInt = 0 := by decide
  apply Int64.toInt_inj.mp
  rw [e1]
  split
  · rename_i q
    rw [Int64.lt_iff_toInt_lt, zz] at q
    rw [zz]; omega
  · rename_i q
    rw [Int64.lt_iff_toInt_lt, zz] at q
    rw [show (-1 : Int64).toInt = -1 by decide]; omega
def own_r (x y : Int64) : Int64 := x - ((own_sr x 1 / y) <<< ((1 : Int32) &&& 0x3f).toInt64) * y
theorem own_r_toInt {x y : Int64} (hy : 0 < y) (hys : y.toInt < 2147483648) : ∃ r0 : Int, (own_r x y).toInt = r0 ∧ 0 ≤ r0 ∧ r0 < 2 * y.toInt ∧ r0 % y.toInt = (own_u x : Int) % y.toInt := by
  have Y0 := own_pos hy
  have hu := own_u_lt x
  have h1 := own_half x
  have e2 : (own_sr x 1 / y).toInt = ((own_u x / 2 : Nat) : Int) / y.toInt := by
    rw [Int64.toInt_div, h1, Int.tdiv_eq_ediv_of_nonneg (by omega)]
    have l1 : 0 ≤ ((own_u x / 2 : Nat) : Int) / y.toInt := Int.ediv_nonneg (by omega) (by omega)
    have l2 : ((own_u x / 2 : Nat) : Int) / y.toInt ≤ ((own_u x / 2 : Nat) : Int) := Int.ediv_le_self _ (by omega)
    exact Int.bmod_eq_of_le (by omega) (by omega)
  generalize hD : ((own_u x / 2 : Nat) : Int) / y.toInt = D at e2
  have k1 := Int.mul_ediv_add_emod ((own_u x / 2 : Nat) : Int) y.toInt
  have k2 := Int.emod_nonneg ((own_u x / 2 : Nat) : Int) (show y.toInt ≠ 0 by omega)
  have k3 := Int.emod_lt_of_pos ((own_u x / 2 : Nat) : Int) Y0
  rw [hD] at k1
  refine ⟨(own_u x : Int) - 2 * (y.toInt * D), ?_, by omega, by omega, ?_⟩
  · rw [own_r, own_dbl, Int64.toInt_sub, Int64.toInt_mul, Int64.toInt_mul, e2, own_u_int, show (2 : Int64).toInt = 2 by decide]
    rw [Int.bmod_mul_bmod, Int.bmod_sub_bmod, Int.sub_bmod_bmod]
    rw [show D * 2 * y.toInt = 2 * (y.toInt * D) by rw [Int.mul_assoc, Int.mul_comm, Int.mul_assoc]]
    exact Int.bmod_eq_of_le (by omega) (by omega)
  · have e5 : y.toInt * (-2 * D) = -(2 * (y.toInt * D)) := by rw [Int.neg_mul, Int.mul_neg, Int.mul_left_comm]
    rw [show (own_u x : Int) - 2 * (y.toInt * D) = (own_u x : Int) + y.toInt * (-2 * D) by rw [e5]; omega, Int.add_mul_emod_self_left]
theorem own_remU_if (x y : Int64) : own_remU x y = if own_r x y - y < 0 then own_r x y else own_r x y - y := by
  show own_r x y - ((((own_r x y - y) ^^^ (-1 : Int64)) >>> ((63 : Int32) &&& 0x3f).toInt64) &&& y) = _
  rw [own_sign]
  split
  · rw [show (0 : Int64) &&& y = 0 by apply Int64.toBitVec_inj.mp; simp, Int64.sub_zero]
  · rw [show (-1 : Int64) &&& y = y by apply Int64.toBitVec_inj.mp; simp]
theorem own_small_sub {r y : Int64} (h0 : 0 ≤ r.toInt) (h1 : r.toInt < 2 * y.toInt) (h2 : y.toInt < 2147483648) (h3 : 0 < y.toInt) : (r - y).toInt = r.toInt - y.toInt := by
  rw [Int64.toInt_sub]; exact Int.bmod_eq_of_le (by omega) (by omega)
theorem own_emod_lo {r y : Int} (h0 : 0 ≤ r) (h1 : r < y) : r % y = r := Int.emod_eq_of_lt h0 h1
theorem own_emod_hi {r y : Int} (h0 : y ≤ r) (h1 : r < 2 * y) : r % y = r - y := by
  rw [← Int.sub_emod_right, Int.emod_eq_of_lt (by omega) (by omega)]
theorem own_remU_toInt {x y : Int64} (hy : 0 < y) (hys : y.toInt < 2147483648) : (own_remU x y).toInt = (own_u x : Int) % y.toInt := by
  have Y0 := own_pos hy
  obtain ⟨r0, e, l0, l1, m⟩ := own_r_toInt (x := x) hy hys
  have es := own_small_sub (r := own_r x y) (y := y) (by omega) (by omega) hys Y0
  rw [own_remU_if, ← m]
  split
  · rename_i q
    rw [Int64.lt_iff_toInt_lt, es, e, show (0 : Int64).toInt = 0 by decide] at q
    rw [e, own_emod_lo l0 (by omega)]
  · rename_i q
    rw [Int64.lt_iff_toInt_lt, es, e, show (0 : Int64).toInt = 0 by decide] at q
    rw [es, e, own_emod_hi (by omega) l1]
theorem own_urem_toInt {x y : Int64} (hy : 0 < y) (hys : y.toInt < 2147483648) : (own_urem x y).toInt = (own_u x : Int) % y.toInt := by
  have Y0 := own_pos hy
  obtain ⟨r0, e, l0, l1, m⟩ := own_r_toInt (x := x) hy hys
  have es := own_small_sub (r := own_r x y) (y := y) (by omega) (by omega) hys Y0
  unfold own_urem
  split
  · show (if own_r x y < y then own_r x y else own_r x y - y).toInt = _
    rw [← m]
    split
    · rename_i q
      rw [Int64.lt_iff_toInt_lt, e] at q
      rw [e, own_emod_lo l0 (by omega)]
    · rename_i q
      rw [Int64.lt_iff_toInt_lt, e] at q
      rw [es, e, own_emod_hi (by omega) l1]
  · rename_i q
    rw [Int64.lt_iff_toInt_lt, show (0 : Int64).toInt = 0 by decide] at q
    have eu : x.toInt = (own_u x : Int) := by
      rcases own_u_cases x with ⟨h1, h2⟩ | ⟨h1, h2⟩
      · exact h1
      · have := own_u_lt x; omega
    rw [Int64.toInt_mod, Int.tmod_eq_emod_of_nonneg (by omega), eu]
theorem own_rem_eq {y : Int64} (hy : 0 < y) (hys : y.toInt < 2147483648) (x : Int64) : own_remU x y = own_urem x y := by
  apply Int64.toInt_inj.mp
  rw [own_remU_toInt hy hys, own_urem_toInt hy hys]
theorem own_ref_toInt {m : Int64} (hm : 0 < m) (hms : m.toInt < 2147483648) : (own_ref m).toInt = 18446744073709551616 % m.toInt := by
  have M0 := own_pos hm
  rw [own_ref, own_remU_toInt hm hms]
  have e : (own_u (-m) : Int) = 18446744073709551616 - m.toInt := by
    have e1 : own_u (-m) = (2 ^ 64 - own_u m) % 2 ^ 64 := by
      show (-m).toBitVec.toNat = _
      rw [Int64.toBitVec_neg, BitVec.toNat_neg]
    have := own_u_lt m
    rcases own_u_cases m with ⟨h1, h2⟩ | ⟨h1, h2⟩ <;> omega
  rw [e, Int.sub_emod_right]
theorem own_two_eq {m : Int64} (hm : 0 < m) (hms : m.toInt < 2147483648) : own_two m = own_ref m := by
  have M0 := own_pos hm
  apply Int64.toInt_inj.mp
  rw [own_ref_toInt hm hms]
  have e1 : ((9223372036854775807 : Int64) % m).toInt = 9223372036854775807 % m.toInt := by rw [Int64.toInt_mod, own_max, Int.tmod_eq_emod_of_nonneg (by decide)]
  have l1 := Int.emod_nonneg 9223372036854775807 (show m.toInt ≠ 0 by omega)
  have l2 := Int.emod_lt_of_pos 9223372036854775807 M0
  have e2 : ((9223372036854775807 : Int64) % m + 1).toInt = 9223372036854775807 % m.toInt + 1 := by
    rw [Int64.toInt_add, e1, show (1 : Int64).toInt = 1 by decide]
    exact Int.bmod_eq_of_le (by omega) (by omega)
  have e3 : (((9223372036854775807 : Int64) % m + 1) % m).toInt = 9223372036854775808 % m.toInt := by
    rw [Int64.toInt_mod, e2, Int.tmod_eq_emod_of_nonneg (by omega), Int.emod_add_emod]; rfl
  have l3 := Int.emod_nonneg 9223372036854775808 (show m.toInt ≠ 0 by omega)
  have l4 := Int.emod_lt_of_pos 9223372036854775808 M0
  have e4 : ((2 : Int64) * (((9223372036854775807 : Int64) % m + 1) % m)).toInt = 2 * (9223372036854775808 % m.toInt) := by
    rw [Int64.toInt_mul, e3, show (2 : Int64).toInt = 2 by decide]
    exact Int.bmod_eq_of_le (by omega) (by omega)
  show (((2 : Int64) * (((9223372036854775807 : Int64) % m + 1) % m)) % m).toInt = _
  rw [Int64.toInt_mod, e4, Int.tmod_eq_emod_of_nonneg (by omega), Int.mul_emod, Int.emod_emod, ← Int.mul_emod]
  rfl
theorem own_bias (x : Int64) : (x + (-9223372036854775808 : Int64)).toInt = (own_u x : Int) - 9223372036854775808 := by
  have hl := own_u_lt x
  rw [Int64.toInt_add, own_u_int, show (-9223372036854775808 : Int64).toInt = -9223372036854775808 by decide, Int.bmod_add_bmod]
  exact Int.bmod_eq_of_le (by omega) (by omega)
theorem own_cmp_lt (x y : Int64) : own_cmp x y < 0 ↔ x < y := by
  unfold own_cmp
  split
  · rename_i q; simp [q]
  · rename_i q
    split
    · simp [q]
    · simp [q]
theorem own_cmpU_lt (x y : Int64) : own_cmpU x y < 0 ↔ own_u x < own_u y := by
  rw [own_cmpU, own_cmp_lt, Int64.lt_iff_toInt_lt, own_bias, own_bias]
  omega
theorem own_accd_iff {d e : Int64} (he : 0 ≤ e.toInt) : own_accd d e = 0 ↔ own_u d < own_u e := by
  have hd := own_u_lt d
  have he' := own_u_lt e
  have z : (0 : Int64).toInt = 0 := by decide
  unfold own_accd
  split
  · rename_i q
    rw [Int64.lt_iff_toInt_lt, z] at q
    rcases own_u_cases d with ⟨h1, h2⟩ | ⟨h1, h2⟩ <;> rcases own_u_cases e with ⟨h3, h4⟩ | ⟨h3, h4⟩ <;> simp <;> omega
  · rename_i q
    rw [Int64.lt_iff_toInt_lt, z] at q
    split
    · rename_i r
      rw [Int64.lt_iff_toInt_lt] at r
      rcases own_u_cases d with ⟨h1, h2⟩ | ⟨h1, h2⟩ <;> rcases own_u_cases e with ⟨h3, h4⟩ | ⟨h3, h4⟩ <;> simp <;> omega
    · rename_i r
      rw [Int64.lt_iff_toInt_lt] at r
      rcases own_u_cases d with ⟨h1, h2⟩ | ⟨h1, h2⟩ <;> rcases own_u_cases e with ⟨h3, h4⟩ | ⟨h3, h4⟩ <;> simp <;> omega
theorem own_accd_no {m d : Int64} (hm : 0 < m) (hms : m.toInt < 2147483648) (q : own_accd d (own_two m) = 0) : ¬ own_acc m d := by
  rw [own_two_eq hm hms, own_accd_iff (by rw [own_ref_toInt hm hms]; exact Int.emod_nonneg _ (by have := own_pos hm; omega))] at q
  intro a
  exact a ((own_cmpU_lt _ _).mpr q)
theorem own_accd_yes {m d : Int64} (hm : 0 < m) (hms : m.toInt < 2147483648) (q : ¬ own_accd d (own_two m) = 0) : own_acc m d := by
  rw [own_two_eq hm hms, own_accd_iff (by rw [own_ref_toInt hm hms]; exact Int.emod_nonneg _ (by have := own_pos hm; omega))] at q
  intro a
  exact q ((own_cmpU_lt _ _).mp a)
theorem own_hist_no {b q s : Int64} (hi : own_hist b q s) (hn : own_cmpU (own_mix (s + own_g)) (own_ref b) < 0) : own_hist b q (s + own_g) := by
  rcases hi with rfl | ⟨rfl, h1⟩ | h
  · exact Or.inr (Or.inl ⟨rfl, fun a => a hn⟩)
  · exact Or.inr (Or.inr ⟨h1, fun a => a hn⟩)
  · exact Or.inr (Or.inr h)
theorem own_range {x : Int64} {b : Int64} (hb : 0 < b) (hbs : b.toInt < 2147483648) : ¬ (own_remU x b).toInt32 < 0 ∧ (own_remU x b).toInt32 < b.toInt32 := by
  have B0 := own_pos hb
  have e := own_remU_toInt (x := x) hb hbs
  have l1 := Int.emod_nonneg (own_u x : Int) (show b.toInt ≠ 0 by omega)
  have l2 := Int.emod_lt_of_pos (own_u x : Int) B0
  rw [Int32.lt_iff_toInt_lt, Int32.lt_iff_toInt_lt, Int64.toInt_toInt32, Int64.toInt_toInt32, e, Int.bmod_eq_of_le (by omega) (by omega), Int.bmod_eq_of_le (n := b.toInt) (by omega) (by omega)]
  simp; omega
theorem own_hist_yes {b q s : Int64} (hb : 0 < b) (hbs : b.toInt < 2147483648) (hi : own_hist b q s) (hy : ¬ own_cmpU (own_mix (s + own_g)) (own_ref b) < 0) : own_post b q (own_remU (own_mix (s + own_g)) b).toInt32 (s + own_g) := by
  refine ⟨own_range hb hbs, ?_⟩
  rcases hi with rfl | ⟨rfl, h1⟩ | h
  · exact ⟨fun _ => ⟨rfl, rfl⟩, fun a => absurd hy a⟩
  · exact ⟨fun a => absurd a h1, fun _ _ => ⟨rfl, rfl⟩⟩
  · exact ⟨fun a => absurd a h.1, fun _ a => absurd a h.2⟩
theorem own_top_mix : own_mix own_top = -1 := by decide +kernel
theorem own_top_acc {b s : Int64} (hb : 0 < b) (hbs : b.toInt < 2147483648) (hn : s + Int64.ofNat (0 + 1) * own_g = own_top) : ¬ own_cmpU (own_mix (s + own_g)) (own_ref b) < 0 := by
  have e : s + own_g = own_top := by rw [← hn]; congr 1
  rw [e, own_top_mix, own_cmpU_lt]
  have := own_u_lt (own_ref b)
  have z : own_u (-1) = 2 ^ 64 - 1 := by decide
  omega
theorem own_bd2 (x : Int32) : ((x &&& 2147483647).toInt64).toInt < 2147483648 := by
  rw [Int32.toInt_toInt64]
  exact Int32.toInt_lt _
theorem own_bd1 {x : Int32} (e : ¬ x &&& 2147483647 = 0) : 0 < (x &&& 2147483647).toInt64 := by
  rw [Int64.lt_iff_toInt_lt, Int32.toInt_toInt64, show (0 : Int64).toInt = 0 by decide]
  have h1 : (x &&& 2147483647).toBitVec.toNat < 2 ^ 31 := by
    rw [Int32.toBitVec_and, BitVec.toNat_and]
    exact Nat.lt_of_le_of_lt Nat.and_le_right (by decide)
  have e3 : (x &&& 2147483647).toInt = ((x &&& 2147483647).toBitVec.toNat : Int) := BitVec.toInt_eq_toNat_of_lt (by omega)
  have e4 : (x &&& 2147483647).toInt ≠ 0 := fun q => e (Int32.toInt_inj.mp (q.trans (by decide)))
  omega
theorem dI_0 : Fet prog_10_method_1_code 0 1 (.aload_n 0) 1 := ⟨by decide +kernel, rfl⟩
theorem dI_1 : Fet prog_10_method_1_code 1 4 (.invokespecial 1) 3 := ⟨by decide +kernel, rfl⟩
theorem dI_4 : Fet prog_10_method_1_code 4 5 (.aload_n 0) 1 := ⟨by decide +kernel, rfl⟩
theorem dI_5 : Fet prog_10_method_1_code 5 6 (.lload_n 1) 1 := ⟨by decide +kernel, rfl⟩
theorem dI_6 : Fet prog_10_method_1_code 6 9 (.putfield 7) 3 := ⟨by decide +kernel, rfl⟩
theorem dI_9 : Fet prog_10_method_1_code 9 10 (.return_) 1 := ⟨by decide +kernel, rfl⟩
theorem pn_com_example_cartolog_cartolog_engine_SplitMix64 : plainName "com/example/cartolog/cartolog/engine/SplitMix64" = true := by first | (simp [plainName, overriddenIn]; done) | decide +kernel
set_option maxRecDepth 65536 in
set_option maxHeartbeats 4000000 in
theorem rmI (l : Launch) (Z : State) (a0 : Array Value) (hw : ∀ d ∈ tables_1, d.before a0 Z = true) (n0 : Nat) (a : Addr) (q : Int64) (h : Heap) (Z0 : n0 ≤ h.size) (gn_a : n0 ≤ a) (E_a : Exa Z h a "com/example/cartolog/cartolog/engine/SplitMix64") (F_a : Fld Z h a "com/example/cartolog/cartolog/engine/SplitMix64" "counter" "J" (.long (0 : Int64))) :
    ConN l Z n0 (⟨"com/example/cartolog/cartolog/engine/SplitMix64", "<init>", "(J)V"⟩ : MethodName) prog_10_method_1_code 3 none [] ({ frames := 1, cells := 0, slots := 0, locals := 12 } : Room) #[(.ref a), (.long q)] h (fun h' => Keep h h' [a] ∧ Exa Z h' a "com/example/cartolog/cartolog/engine/SplitMix64" ∧ Fld Z h' a "com/example/cartolog/cartolog/engine/SplitMix64" "counter" "J" (.long q)) := by
  refine con_of_wp (Ls := #[.val (.ref a), .val (.long q), .second]) (plainFor_of_name pn_com_example_cartolog_cartolog_engine_SplitMix64) (fun m => by first | (simp [entryFrame, mkF, argsToLocals, Value.category]; done) | rfl) ?_
  intro K ok
  replace ok : Ok Z K prog_10_method_1_code "com/example/cartolog/cartolog/engine/SplitMix64" "<init>" 3 none := ok
  show Wp l ({ frames := 1, cells := 0, slots := 0, locals := 12 } : Room) n0 K (fun v h' => v = none ∧ Keep h h' [a] ∧ Exa Z h' a "com/example/cartolog/cartolog/engine/SplitMix64" ∧ Fld Z h' a "com/example/cartolog/cartolog/engine/SplitMix64" "counter" "J" (.long q)) h 0 0 0 #[.val (.ref a), .val (.long q), .second] []
  have Kp : Keep h h [a] := Keep.refl _ _
  refine w_aloadN ok dI_0 rfl rfl ?_
  refine w_initO ok (hw _ (List.mem_of_getElem? (i := 7) rfl)) (hw _ (List.mem_of_getElem? (i := 8) rfl)) (hw _ (List.mem_of_getElem? (i := 9) rfl)) dI_1 rfl (Nat.le_of_ble_eq_true rfl) (Nat.le_of_ble_eq_true rfl) ?_
  refine w_aloadN ok dI_4 rfl rfl ?_
  refine w_lloadN ok dI_5 rfl ?_
  refine w_putfield ok (host := "") (Or.inl (hw _ (List.mem_of_getElem? (i := 10) rfl))) Via.refl F_a E_a (Or.inl (hw _ (List.mem_of_getElem? (i := 11) rfl))) (hw _ (List.mem_of_getElem? (i := 2) rfl)) (ty := .long) (by decide) rfl rfl gn_a dI_6 (fun h1 W1 => ?_)
  have E_a := E_a.wr W1
  have F_a := F_a.same W1
  have Z0 := Nat.le_trans Z0 (Keep.of_wr W1).1
  have Kp := Kp.wr W1 (Or.inl (List.mem_of_getElem? (i := 0) rfl))
  refine w_return ok dI_9 (Nat.le_of_ble_eq_true rfl) (Nat.le_of_ble_eq_true rfl) ?_
  exact ⟨rfl, Kp, E_a, F_a⟩
theorem dN_0 : Fet prog_10_method_2_code 0 1 (.aload_n 0) 1 := ⟨by decide +kernel, rfl⟩
theorem dN_1 : Fet prog_10_method_2_code 1 2 (.dup) 1 := ⟨by decide +kernel, rfl⟩
theorem dN_2 : Fet prog_10_method_2_code 2 5 (.getfield 7) 3 := ⟨by decide +kernel, rfl⟩
theorem dN_5 : Fet prog_10_method_2_code 5 8 (.ldc2_w 13) 3 := ⟨by decide +kernel, rfl⟩
theorem dN_8 : Fet prog_10_method_2_code 8 9 (.ladd) 1 := ⟨by decide +kernel, rfl⟩
theorem dN_9 : Fet prog_10_method_2_code 9 12 (.putfield 7) 3 := ⟨by decide +kernel, rfl⟩
theorem dN_12 : Fet prog_10_method_2_code 12 13 (.aload_n 0) 1 := ⟨by decide +kernel, rfl⟩
theorem dN_13 : Fet prog_10_method_2_code 13 16 (.getfield 7) 3 := ⟨by decide +kernel, rfl⟩
theorem dN_16 : Fet prog_10_method_2_code 16 17 (.lstore_n 1) 1 := ⟨by decide +kernel, rfl⟩
theorem dN_17 : Fet prog_10_method_2_code 17 18 (.lload_n 1) 1 := ⟨by decide +kernel, rfl⟩
theorem dN_18 : Fet prog_10_method_2_code 18 19 (.lload_n 1) 1 := ⟨by decide +kernel, rfl⟩
theorem dN_19 : Fet prog_10_method_2_code 19 21 (.bipush 30) 2 := ⟨by decide +kernel, rfl⟩
theorem dN_21 : Fet prog_10_method_2_code 21 22 (.lushr) 1 := ⟨by decide +kernel, rfl⟩
theorem dN_22 : Fet prog_10_method_2_code 22 23 (.lxor) 1 := ⟨by decide +kernel, rfl⟩
theorem dN_23 : Fet prog_10_method_2_code 23 26 (.ldc2_w 15) 3 := ⟨by decide +kernel, rfl⟩
theorem dN_26 : Fet prog_10_method_2_code 26 27 (.lmul) 1 := ⟨by decide +kernel, rfl⟩
theorem dN_27 : Fet prog_10_method_2_code 27 28 (.lstore_n 1) 1 := ⟨by decide +kernel, rfl⟩
theorem dN_28 : Fet prog_10_method_2_code 28 29 (.lload_n 1) 1 := ⟨by decide +kernel, rfl⟩
theorem dN_29 : Fet prog_10_method_2_code 29 30 (.lload_n 1) 1 := ⟨by decide +kernel, rfl⟩
theorem dN_30 : Fet prog_10_method_2_code 30 32 (.bipush 27) 2 := ⟨by decide +kernel, rfl⟩
theorem dN_32 : Fet prog_10_method_2_code 32 33 (.lushr) 1 := ⟨by decide +kernel, rfl⟩
theorem dN_33 : Fet prog_10_method_2_code 33 34 (.lxor) 1 := ⟨by decide +kernel, rfl⟩
theorem dN_34 : Fet prog_10_method_2_code 34 37 (.ldc2_w 17) 3 := ⟨by decide +kernel, rfl⟩
theorem dN_37 : Fet prog_10_method_2_code 37 38 (.lmul) 1 := ⟨by decide +kernel, rfl⟩
theorem dN_38 : Fet prog_10_method_2_code 38 39 (.lstore_n 1) 1 := ⟨by decide +kernel, rfl⟩
theorem dN_39 : Fet prog_10_method_2_code 39 40 (.lload_n 1) 1 := ⟨by decide +kernel, rfl⟩
theorem dN_40 : Fet prog_10_method_2_code 40 41 (.lload_n 1) 1 := ⟨by decide +kernel, rfl⟩
theorem dN_41 : Fet prog_10_method_2_code 41 43 (.bipush 31) 2 := ⟨by decide +kernel, rfl⟩
theorem dN_43 : Fet prog_10_method_2_code 43 44 (.lushr) 1 := ⟨by decide +kernel, rfl⟩
theorem dN_44 : Fet prog_10_method_2_code 44 45 (.lxor) 1 := ⟨by decide +kernel, rfl⟩
theorem dN_45 : Fet prog_10_method_2_code 45 46 (.lreturn) 1 := ⟨by decide +kernel, rfl⟩
set_option maxRecDepth 65536 in
set_option maxHeartbeats 4000000 in
theorem rmN (l : Launch) (Z : State) (a0 : Array Value) (hw : ∀ d ∈ tables_1, d.before a0 Z = true) (n0 : Nat) (a : Addr) (q : Int64) (h : Heap) (Z0 : n0 ≤ h.size) (gn_a : n0 ≤ a) (E_a : Exa Z h a "com/example/cartolog/cartolog/engine/SplitMix64") (F_a : Fld Z h a "com/example/cartolog/cartolog/engine/SplitMix64" "counter" "J" (.long q)) :
    ConV l Z n0 (⟨"com/example/cartolog/cartolog/engine/SplitMix64", "next", "()J"⟩ : MethodName) prog_10_method_2_code 3 (some .long) [] ({ frames := 0, cells := 0, slots := 0, locals := 0 } : Room) #[(.ref a)] h (fun w h' => w = .long (own_mix (q + (-7046029254386353131 : Int64))) ∧ Keep h h' [a] ∧ Exa Z h' a "com/example/cartolog/cartolog/engine/SplitMix64" ∧ Fld Z h' a "com/example/cartolog/cartolog/engine/SplitMix64" "counter" "J" (.long (q + (-7046029254386353131 : Int64)))) := by
  refine con_of_wp (Ls := #[.val (.ref a), .unset, .unset]) (plainFor_of_name pn_com_example_cartolog_cartolog_engine_SplitMix64) (fun m => by first | (simp [entryFrame, mkF, argsToLocals, Value.category]; done) | rfl) ?_
  intro K ok
  replace ok : Ok Z K prog_10_method_2_code "com/example/cartolog/cartolog/engine/SplitMix64" "next" 3 (some .long) := ok
  show Wp l ({ frames := 0, cells := 0, slots := 0, locals := 0 } : Room) n0 K (fun v h' => ∃ w, v = some w ∧ w = .long (own_mix (q + (-7046029254386353131 : Int64))) ∧ Keep h h' [a] ∧ Exa Z h' a "com/example/cartolog/cartolog/engine/SplitMix64" ∧ Fld Z h' a "com/example/cartolog/cartolog/engine/SplitMix64" "counter" "J" (.long (q + (-7046029254386353131 : Int64)))) h 0 0 0 #[.val (.ref a), .unset, .unset] []
  have Kp : Keep h h [a] := Keep.refl _ _
  refine w_aloadN ok dN_0 rfl rfl ?_
  refine w_dup ok dN_1 rfl ?_
  refine w_getfield ok (host := "") (Or.inl (hw _ (List.mem_of_getElem? (i := 10) rfl))) Via.refl F_a dN_2 ?_
  refine w_ldc2 ok (hw _ (List.mem_of_getElem? (i := 27) rfl)) dN_5 ?_
  refine w_ladd ok dN_8 ?_
  refine w_putfield ok (host := "") (Or.inl (hw _ (List.mem_of_getElem? (i := 10) rfl))) Via.refl F_a E_a (Or.inl (hw _ (List.mem_of_getElem? (i := 11) rfl))) (hw _ (List.mem_of_getElem? (i := 2) rfl)) (ty := .long) (by decide) rfl rfl gn_a dN_9 (fun h1 W1 => ?_)
  have E_a := E_a.wr W1
  have F_a := F_a.same W1
  have Z0 := Nat.le_trans Z0 (Keep.of_wr W1).1
  have Kp := Kp.wr W1 (Or.inl (List.mem_of_getElem? (i := 0) rfl))
  refine w_aloadN ok dN_12 rfl rfl ?_
  refine w_getfield ok (host := "") (Or.inl (hw _ (List.mem_of_getElem? (i := 10) rfl))) Via.refl F_a dN_13 ?_
  refine w_lstoreN ok (Ls' := #[.val (.ref a), .val (.long (q + (-7046029254386353131 : Int64))), .second]) dN_16 rfl ?_
  generalize hz0 : (q + (-7046029254386353131 : Int64)) = z0
  refine w_lloadN ok dN_17 rfl ?_
  refine w_lloadN ok dN_18 rfl ?_
  refine w_bipush ok (z := 30) dN_19 rfl ?_
  refine w_lushr ok dN_21 ?_
  refine w_lxor ok dN_22 ?_
  refine w_ldc2 ok (hw _ (List.mem_of_getElem? (i := 28) rfl)) dN_23 ?_
  refine w_lmul ok dN_26 ?_
  refine w_lstoreN ok (Ls' := #[.val (.ref a), .val (.long ((z0 ^^^ ((z0.toUInt64 >>> ((30 : Int32) &&& 0x3f).toInt64.toUInt64).toInt64)) * (-4658895280553007687 : Int64))), .second]) dN_27 rfl ?_
  generalize hz1 : ((z0 ^^^ ((z0.toUInt64 >>> ((30 : Int32) &&& 0x3f).toInt64.toUInt64).toInt64)) * (-4658895280553007687 : Int64)) = z1
  refine w_lloadN ok dN_28 rfl ?_
  refine w_lloadN ok dN_29 rfl ?_
  refine w_bipush ok (z := 27) dN_30 rfl ?_
  refine w_lushr ok dN_32 ?_
  refine w_lxor ok dN_33 ?_
  refine w_ldc2 ok (hw _ (List.mem_of_getElem? (i := 29) rfl)) dN_34 ?_
  refine w_lmul ok dN_37 ?_
  refine w_lstoreN ok (Ls' := #[.val (.ref a), .val (.long ((z1 ^^^ ((z1.toUInt64 >>> ((27 : Int32) &&& 0x3f).toInt64.toUInt64).toInt64)) * (-7723592293110705685 : Int64))), .second]) dN_38 rfl ?_
  generalize hz2 : ((z1 ^^^ ((z1.toUInt64 >>> ((27 : Int32) &&& 0x3f).toInt64.toUInt64).toInt64)) * (-7723592293110705685 : Int64)) = z2
  refine w_lloadN ok dN_39 rfl ?_
  refine w_lloadN ok dN_40 rfl ?_
  refine w_bipush ok (z := 31) dN_41 rfl ?_
  refine w_lushr ok dN_43 ?_
  refine w_lxor ok dN_44 ?_
  refine w_lreturn ok dN_45 (Nat.le_of_ble_eq_true rfl) (Nat.le_of_ble_eq_true rfl) ?_
  subst hz2 hz1 hz0
  exact ⟨_, rfl, rfl, Kp, E_a, F_a⟩
theorem dC_0 : Fet jdk_35_method_42_code 0 1 (.lload_n 0) 1 := ⟨by decide +kernel, rfl⟩
theorem dC_1 : Fet jdk_35_method_42_code 1 2 (.lload_n 2) 1 := ⟨by decide +kernel, rfl⟩
theorem dC_2 : Fet jdk_35_method_42_code 2 3 (.lcmp) 1 := ⟨by decide +kernel, rfl⟩
theorem dC_3 : Brn jdk_35_method_42_code 3 6 10 (.ifCond .ge 7) 7 := ⟨by decide +kernel, rfl, by decide, by decide⟩
theorem dC_6 : Fet jdk_35_method_42_code 6 7 (.iconst (-1)) 1 := ⟨by decide +kernel, rfl⟩
theorem dC_7 : Brn jdk_35_method_42_code 7 10 21 (.goto 14) 14 := ⟨by decide +kernel, rfl, by decide, by decide⟩
theorem dC_21 : Fet jdk_35_method_42_code 21 22 (.ireturn) 1 := ⟨by decide +kernel, rfl⟩
theorem dC_10 : Fet jdk_35_method_42_code 10 11 (.lload_n 0) 1 := ⟨by decide +kernel, rfl⟩
theorem dC_11 : Fet jdk_35_method_42_code 11 12 (.lload_n 2) 1 := ⟨by decide +kernel, rfl⟩
theorem dC_12 : Fet jdk_35_method_42_code 12 13 (.lcmp) 1 := ⟨by decide +kernel, rfl⟩
theorem dC_13 : Brn jdk_35_method_42_code 13 16 20 (.ifCond .ne 7) 7 := ⟨by decide +kernel, rfl, by decide, by decide⟩
theorem dC_20 : Fet jdk_35_method_42_code 20 21 (.iconst 1) 1 := ⟨by decide +kernel, rfl⟩
theorem dC_16 : Fet jdk_35_method_42_code 16 17 (.iconst 0) 1 := ⟨by decide +kernel, rfl⟩
theorem dC_17 : Brn jdk_35_method_42_code 17 20 21 (.goto 4) 4 := ⟨by decide +kernel, rfl, by decide, by decide⟩
theorem pn_java_lang_Long : plainName "java/lang/Long" = true := by first | (simp [plainName, overriddenIn]; done) | decide +kernel
set_option maxRecDepth 65536 in
set_option maxHeartbeats 4000000 in
theorem rmC (l : Launch) (Z : State) (a0 : Array Value) (hw : ∀ d ∈ tables_1, d.before a0 Z = true) (n0 : Nat) (x y : Int64) (h : Heap) :
    ConV l Z n0 (⟨"java/lang/Long", "compare", "(JJ)I"⟩ : MethodName) jdk_35_method_42_code 4 (some .int) [] ({ frames := 0, cells := 0, slots := 0, locals := 0 } : Room) #[(.long x), (.long y)] h (fun w h' => w = .int (own_cmp x y) ∧ h = h') := by
  refine con_of_wp (Ls := #[.val (.long x), .second, .val (.long y), .second]) (plainFor_of_name pn_java_lang_Long) (fun m => by first | (simp [entryFrame, mkF, argsToLocals, Value.category]; done) | rfl) ?_
  intro K ok
  replace ok : Ok Z K jdk_35_method_42_code "java/lang/Long" "compare" 4 (some .int) := ok
  show Wp l ({ frames := 0, cells := 0, slots := 0, locals := 0 } : Room) n0 K (fun v h' => ∃ w, v = some w ∧ w = .int (own_cmp x y) ∧ h = h') h 0 0 0 #[.val (.long x), .second, .val (.long y), .second] []
  refine w_lloadN ok dC_0 rfl ?_
  refine w_lloadN ok dC_1 rfl ?_
  refine w_lc_ge ok dC_2 dC_3 (fun q0 => ?_) (fun q0 => ?_)
  · refine w_lloadN ok dC_10 rfl ?_
    refine w_lloadN ok dC_11 rfl ?_
    refine w_lc_ne ok dC_12 dC_13 (fun q1 => ?_) (fun q1 => ?_)
    · refine w_iconst ok (z := 1) dC_20 rfl ?_
      refine w_ireturnI ok dC_21 (Nat.le_of_ble_eq_true rfl) (Nat.le_of_ble_eq_true rfl) ?_
      exact ⟨_, rfl, by rw [show own_cmp x y = 1 by simp [own_cmp, q0, q1]], rfl⟩
    · refine w_iconst ok (z := 0) dC_16 rfl ?_
      refine w_goto ok dC_17 ?_
      refine w_ireturnI ok dC_21 (Nat.le_of_ble_eq_true rfl) (Nat.le_of_ble_eq_true rfl) ?_
      exact ⟨_, rfl, by rw [show own_cmp x y = 0 by simp only [own_cmp, if_neg q0, if_pos q1]], rfl⟩
  · refine w_iconst ok (z := -1) dC_6 rfl ?_
    refine w_goto ok dC_7 ?_
    refine w_ireturnI ok dC_21 (Nat.le_of_ble_eq_true rfl) (Nat.le_of_ble_eq_true rfl) ?_
    exact ⟨_, rfl, by rw [show own_cmp x y = -1 by simp [own_cmp, q0]], rfl⟩
theorem dD_0 : Fet jdk_35_method_43_code 0 1 (.lload_n 0) 1 := ⟨by decide +kernel, rfl⟩
theorem dD_1 : Fet jdk_35_method_43_code 1 4 (.ldc2_w 168) 3 := ⟨by decide +kernel, rfl⟩
theorem dD_4 : Fet jdk_35_method_43_code 4 5 (.ladd) 1 := ⟨by decide +kernel, rfl⟩
theorem dD_5 : Fet jdk_35_method_43_code 5 6 (.lload_n 2) 1 := ⟨by decide +kernel, rfl⟩
theorem dD_6 : Fet jdk_35_method_43_code 6 9 (.ldc2_w 168) 3 := ⟨by decide +kernel, rfl⟩
theorem dD_9 : Fet jdk_35_method_43_code 9 10 (.ladd) 1 := ⟨by decide +kernel, rfl⟩
theorem dD_10 : Fet jdk_35_method_43_code 10 13 (.invokestatic 302) 3 := ⟨by decide +kernel, rfl⟩
theorem pd__JJ_I : parseMethodDescriptor "(JJ)I" = some ⟨[.long, .long], some .int⟩ := by decide +kernel
theorem dD_13 : Fet jdk_35_method_43_code 13 14 (.ireturn) 1 := ⟨by decide +kernel, rfl⟩
set_option maxRecDepth 65536 in
set_option maxHeartbeats 4000000 in
theorem rmD (l : Launch) (Z : State) (a0 : Array Value) (hw : ∀ d ∈ tables_1, d.before a0 Z = true) (n0 : Nat) (x y : Int64) (h : Heap) :
    ConV l Z n0 (⟨"java/lang/Long", "compareUnsigned", "(JJ)I"⟩ : MethodName) jdk_35_method_43_code 4 (some .int) [] ({ frames := 1, cells := 0, slots := 0, locals := 15 } : Room) #[(.long x), (.long y)] h (fun w h' => w = .int (own_cmpU x y) ∧ h = h') := by
  refine con_of_wp (Ls := #[.val (.long x), .second, .val (.long y), .second]) (plainFor_of_name pn_java_lang_Long) (fun m => by first | (simp [entryFrame, mkF, argsToLocals, Value.category]; done) | rfl) ?_
  intro K ok
  replace ok : Ok Z K jdk_35_method_43_code "java/lang/Long" "compareUnsigned" 4 (some .int) := ok
  show Wp l ({ frames := 1, cells := 0, slots := 0, locals := 15 } : Room) n0 K (fun v h' => ∃ w, v = some w ∧ w = .int (own_cmpU x y) ∧ h = h') h 0 0 0 #[.val (.long x), .second, .val (.long y), .second] []
  refine w_lloadN ok dD_0 rfl ?_
  refine w_ldc2 ok (hw _ (List.mem_of_getElem? (i := 33) rfl)) dD_1 ?_
  refine w_ladd ok dD_4 ?_
  refine w_lloadN ok dD_5 rfl ?_
  refine w_ldc2 ok (hw _ (List.mem_of_getElem? (i := 33) rfl)) dD_6 ?_
  refine w_ladd ok dD_9 ?_
  refine w_callSV ok (argsL := [(.long (x + (-9223372036854775808 : Int64))), (.long (y + (-9223372036854775808 : Int64)))]) (rest := []) (hw _ (List.mem_of_getElem? (i := 34) rfl)) (hw _ (List.mem_of_getElem? (i := 35) rfl)) (hw _ (List.mem_of_getElem? (i := 19) rfl)) (hw _ (List.mem_of_getElem? (i := 36) rfl)) (by decide) (rmC l Z a0 hw n0 _ _ h) dD_10 (lenOf pd__JJ_I rfl) rfl rfl (Nat.le_of_ble_eq_true rfl) (Nat.le_of_ble_eq_true rfl) (k' := 0) (n' := 0) rfl rfl (Nat.le_of_ble_eq_true rfl) (Nat.le_of_ble_eq_true rfl) ?_
  rintro _ _ ⟨rfl, rfl⟩
  refine w_ireturnI ok dD_13 (Nat.le_of_ble_eq_true rfl) (Nat.le_of_ble_eq_true rfl) ?_
  exact ⟨_, rfl, rfl, rfl⟩
theorem dR_0 : Fet jdk_35_method_45_code 0 1 (.lload_n 2) 1 := ⟨by decide +kernel, rfl⟩
theorem dR_1 : Fet jdk_35_method_45_code 1 2 (.lconst 0) 1 := ⟨by decide +kernel, rfl⟩
theorem dR_2 : Fet jdk_35_method_45_code 2 3 (.lcmp) 1 := ⟨by decide +kernel, rfl⟩
theorem dR_3 : Brn jdk_35_method_45_code 3 6 40 (.ifCond .lt 37) 37 := ⟨by decide +kernel, rfl, by decide, by decide⟩
theorem dR_6 : Fet jdk_35_method_45_code 6 7 (.lload_n 0) 1 := ⟨by decide +kernel, rfl⟩
theorem dR_7 : Fet jdk_35_method_45_code 7 8 (.iconst 1) 1 := ⟨by decide +kernel, rfl⟩
theorem dR_8 : Fet jdk_35_method_45_code 8 9 (.lushr) 1 := ⟨by decide +kernel, rfl⟩
theorem dR_9 : Fet jdk_35_method_45_code 9 10 (.lload_n 2) 1 := ⟨by decide +kernel, rfl⟩
theorem dR_10 : Fet jdk_35_method_45_code 10 11 (.ldiv) 1 := ⟨by decide +kernel, rfl⟩
theorem dR_11 : Fet jdk_35_method_45_code 11 12 (.iconst 1) 1 := ⟨by decide +kernel, rfl⟩
theorem dR_12 : Fet jdk_35_method_45_code 12 13 (.lshl) 1 := ⟨by decide +kernel, rfl⟩
theorem dR_13 : Fet jdk_35_method_45_code 13 15 (.lstore 4) 2 := ⟨by decide +kernel, rfl⟩
theorem dR_15 : Fet jdk_35_method_45_code 15 16 (.lload_n 0) 1 := ⟨by decide +kernel, rfl⟩
theorem dR_16 : Fet jdk_35_method_45_code 16 18 (.lload 4) 2 := ⟨by decide +kernel, rfl⟩
theorem dR_18 : Fet jdk_35_method_45_code 18 19 (.lload_n 2) 1 := ⟨by decide +kernel, rfl⟩
theorem dR_19 : Fet jdk_35_method_45_code 19 20 (.lmul) 1 := ⟨by decide +kernel, rfl⟩
theorem dR_20 : Fet jdk_35_method_45_code 20 21 (.lsub) 1 := ⟨by decide +kernel, rfl⟩
theorem dR_21 : Fet jdk_35_method_45_code 21 23 (.lstore 6) 2 := ⟨by decide +kernel, rfl⟩
theorem dR_23 : Fet jdk_35_method_45_code 23 25 (.lload 6) 2 := ⟨by decide +kernel, rfl⟩
theorem dR_25 : Fet jdk_35_method_45_code 25 27 (.lload 6) 2 := ⟨by decide +kernel, rfl⟩
theorem dR_27 : Fet jdk_35_method_45_code 27 28 (.lload_n 2) 1 := ⟨by decide +kernel, rfl⟩
theorem dR_28 : Fet jdk_35_method_45_code 28 29 (.lsub) 1 := ⟨by decide +kernel, rfl⟩
theorem dR_29 : Fet jdk_35_method_45_code 29 32 (.ldc2_w 306) 3 := ⟨by decide +kernel, rfl⟩
theorem dR_32 : Fet jdk_35_method_45_code 32 33 (.lxor) 1 := ⟨by decide +kernel, rfl⟩
theorem dR_33 : Fet jdk_35_method_45_code 33 35 (.bipush 63) 2 := ⟨by decide +kernel, rfl⟩
theorem dR_35 : Fet jdk_35_method_45_code 35 36 (.lshr) 1 := ⟨by decide +kernel, rfl⟩
theorem dR_36 : Fet jdk_35_method_45_code 36 37 (.lload_n 2) 1 := ⟨by decide +kernel, rfl⟩
theorem dR_37 : Fet jdk_35_method_45_code 37 38 (.land) 1 := ⟨by decide +kernel, rfl⟩
theorem dR_38 : Fet jdk_35_method_45_code 38 39 (.lsub) 1 := ⟨by decide +kernel, rfl⟩
theorem dR_39 : Fet jdk_35_method_45_code 39 40 (.lreturn) 1 := ⟨by decide +kernel, rfl⟩
set_option maxRecDepth 65536 in
set_option maxHeartbeats 4000000 in
theorem rmR (l : Launch) (Z : State) (a0 : Array Value) (hw : ∀ d ∈ tables_1, d.before a0 Z = true) (n0 : Nat) (x y : Int64) (h : Heap) (hy : 0 < y) (hy0 : y ≠ 0) :
    ConV l Z n0 (⟨"java/lang/Long", "remainderUnsigned", "(JJ)J"⟩ : MethodName) jdk_35_method_45_code 8 (some .long) [] ({ frames := 0, cells := 0, slots := 0, locals := 0 } : Room) #[(.long x), (.long y)] h (fun w h' => w = .long (own_remU x y) ∧ h = h') := by
  refine con_of_wp (Ls := #[.val (.long x), .second, .val (.long y), .second, .unset, .unset, .unset, .unset]) (plainFor_of_name pn_java_lang_Long) (fun m => by first | (simp [entryFrame, mkF, argsToLocals, Value.category]; done) | rfl) ?_
  intro K ok
  replace ok : Ok Z K jdk_35_method_45_code "java/lang/Long" "remainderUnsigned" 8 (some .long) := ok
  show Wp l ({ frames := 0, cells := 0, slots := 0, locals := 0 } : Room) n0 K (fun v h' => ∃ w, v = some w ∧ w = .long (own_remU x y) ∧ h = h') h 0 0 0 #[.val (.long x), .second, .val (.long y), .second, .unset, .unset, .unset, .unset] []
  refine w_lloadN ok dR_0 rfl ?_
  refine w_lconst ok (z := 0) dR_1 rfl ?_
  refine w_lc_lt ok dR_2 dR_3 (fun q0 => ?_) (fun q0 => ?_)
  · exact absurd q0 (own_not_neg hy)
  · refine w_lloadN ok dR_6 rfl ?_
    refine w_iconst ok (z := 1) dR_7 rfl ?_
    refine w_lushr ok dR_8 ?_
    refine w_lloadN ok dR_9 rfl ?_
    refine w_ldiv ok dR_10 hy0 ?_
    refine w_iconst ok (z := 1) dR_11 rfl ?_
    refine w_lshl ok dR_12 ?_
    refine w_lstore ok (Ls' := #[.val (.long x), .second, .val (.long y), .second, .val (.long ((((x.toUInt64 >>> ((1 : Int32) &&& 0x3f).toInt64.toUInt64).toInt64) / y) <<< ((1 : Int32) &&& 0x3f).toInt64)), .second, .unset, .unset]) dR_13 rfl ?_
    generalize hqq : ((((x.toUInt64 >>> ((1 : Int32) &&& 0x3f).toInt64.toUInt64).toInt64) / y) <<< ((1 : Int32) &&& 0x3f).toInt64) = qq
    refine w_lloadN ok dR_15 rfl ?_
    refine w_lload ok dR_16 rfl ?_
    refine w_lloadN ok dR_18 rfl ?_
    refine w_lmul ok dR_19 ?_
    refine w_lsub ok dR_20 ?_
    refine w_lstore ok (Ls' := #[.val (.long x), .second, .val (.long y), .second, .val (.long qq), .second, .val (.long (x - (qq * y))), .second]) dR_21 rfl ?_
    generalize hrr : (x - (qq * y)) = rr
    refine w_lload ok dR_23 rfl ?_
    refine w_lload ok dR_25 rfl ?_
    refine w_lloadN ok dR_27 rfl ?_
    refine w_lsub ok dR_28 ?_
    refine w_ldc2 ok (hw _ (List.mem_of_getElem? (i := 21) rfl)) dR_29 ?_
    refine w_lxor ok dR_32 ?_
    refine w_bipush ok (z := 63) dR_33 rfl ?_
    refine w_lshr ok dR_35 ?_
    refine w_lloadN ok dR_36 rfl ?_
    refine w_land ok dR_37 ?_
    refine w_lsub ok dR_38 ?_
    refine w_lreturn ok dR_39 (Nat.le_of_ble_eq_true rfl) (Nat.le_of_ble_eq_true rfl) ?_
    subst hrr hqq
    exact ⟨_, rfl, rfl, rfl⟩
theorem dB_0 : Fet prog_10_method_3_code 0 1 (.iload_n 1) 1 := ⟨by decide +kernel, rfl⟩
theorem dB_1 : Fet prog_10_method_3_code 1 2 (.i2l) 1 := ⟨by decide +kernel, rfl⟩
theorem dB_2 : Fet prog_10_method_3_code 2 3 (.lneg) 1 := ⟨by decide +kernel, rfl⟩
theorem dB_3 : Fet prog_10_method_3_code 3 4 (.iload_n 1) 1 := ⟨by decide +kernel, rfl⟩
theorem dB_4 : Fet prog_10_method_3_code 4 5 (.i2l) 1 := ⟨by decide +kernel, rfl⟩
theorem dB_5 : Fet prog_10_method_3_code 5 8 (.invokestatic 19) 3 := ⟨by decide +kernel, rfl⟩
theorem pd__JJ_J : parseMethodDescriptor "(JJ)J" = some ⟨[.long, .long], some .long⟩ := by decide +kernel
theorem dB_8 : Fet prog_10_method_3_code 8 9 (.lstore_n 2) 1 := ⟨by decide +kernel, rfl⟩
theorem dB_9 : Fet prog_10_method_3_code 9 10 (.aload_n 0) 1 := ⟨by decide +kernel, rfl⟩
theorem dB_10 : Fet prog_10_method_3_code 10 13 (.invokevirtual 25) 3 := ⟨by decide +kernel, rfl⟩
theorem pd___J : parseMethodDescriptor "()J" = some ⟨[], some .long⟩ := by decide +kernel
theorem dB_15 : Fet prog_10_method_3_code 15 17 (.lload 4) 2 := ⟨by decide +kernel, rfl⟩
theorem dB_17 : Fet prog_10_method_3_code 17 18 (.lload_n 2) 1 := ⟨by decide +kernel, rfl⟩
theorem dB_18 : Fet prog_10_method_3_code 18 21 (.invokestatic 29) 3 := ⟨by decide +kernel, rfl⟩
theorem dB_21 : Brn prog_10_method_3_code 21 24 33 (.ifCond .lt 12) 12 := ⟨by decide +kernel, rfl, by decide, by decide⟩
theorem dB_33 : Brn prog_10_method_3_code 33 36 9 (.goto (-24)) (-24) := ⟨by decide +kernel, rfl, by decide, by decide⟩
theorem dB_24 : Fet prog_10_method_3_code 24 26 (.lload 4) 2 := ⟨by decide +kernel, rfl⟩
theorem dB_26 : Fet prog_10_method_3_code 26 27 (.iload_n 1) 1 := ⟨by decide +kernel, rfl⟩
theorem dB_27 : Fet prog_10_method_3_code 27 28 (.i2l) 1 := ⟨by decide +kernel, rfl⟩
theorem dB_28 : Fet prog_10_method_3_code 28 31 (.invokestatic 19) 3 := ⟨by decide +kernel, rfl⟩
theorem dB_31 : Fet prog_10_method_3_code 31 32 (.l2i) 1 := ⟨by decide +kernel, rfl⟩
theorem dB_32 : Fet prog_10_method_3_code 32 33 (.ireturn) 1 := ⟨by decide +kernel, rfl⟩
theorem dB_13 : Fet prog_10_method_3_code 13 15 (.lstore 4) 2 := ⟨by decide +kernel, rfl⟩
set_option maxRecDepth 65536 in
set_option maxHeartbeats 4000000 in
theorem rmB (l : Launch) (Z : State) (a0 : Array Value) (hw : ∀ d ∈ tables_1, d.before a0 Z = true) (n0 : Nat) (a : Addr) (q : Int64) (b : Int32) (h : Heap) (Z0 : n0 ≤ h.size) (gn_a : n0 ≤ a) (E_a : Exa Z h a "com/example/cartolog/cartolog/engine/SplitMix64") (F_a : Fld Z h a "com/example/cartolog/cartolog/engine/SplitMix64" "counter" "J" (.long q)) (hb : 0 < b.toInt64) (hbs : b.toInt64.toInt < 2147483648) (hb0 : b.toInt64 ≠ 0) :
    ConV l Z n0 (⟨"com/example/cartolog/cartolog/engine/SplitMix64", "below", "(I)I"⟩ : MethodName) prog_10_method_3_code 6 (some .int) [] ({ frames := 2, cells := 0, slots := 0, locals := 30 } : Room) #[(.ref a), (.int b)] h (fun w h' => ∃ (r : Int32) (s : Int64), w = .int r ∧ Keep h h' [a] ∧ Exa Z h' a "com/example/cartolog/cartolog/engine/SplitMix64" ∧ Fld Z h' a "com/example/cartolog/cartolog/engine/SplitMix64" "counter" "J" (.long s) ∧ own_post b.toInt64 q r s) := by
  refine con_of_wp (Ls := #[.val (.ref a), .val (.int b), .unset, .unset, .unset, .unset]) (plainFor_of_name pn_com_example_cartolog_cartolog_engine_SplitMix64) (fun m => by first | (simp [entryFrame, mkF, argsToLocals, Value.category]; done) | rfl) ?_
  intro K ok
  replace ok : Ok Z K prog_10_method_3_code "com/example/cartolog/cartolog/engine/SplitMix64" "below" 6 (some .int) := ok
  show Wp l ({ frames := 2, cells := 0, slots := 0, locals := 30 } : Room) n0 K (fun v h' => ∃ w, v = some w ∧ ∃ (r : Int32) (s : Int64), w = .int r ∧ Keep h h' [a] ∧ Exa Z h' a "com/example/cartolog/cartolog/engine/SplitMix64" ∧ Fld Z h' a "com/example/cartolog/cartolog/engine/SplitMix64" "counter" "J" (.long s) ∧ own_post b.toInt64 q r s) h 0 0 0 #[.val (.ref a), .val (.int b), .unset, .unset, .unset, .unset] []
  have Kp : Keep h h [a] := Keep.refl _ _
  refine w_iloadN ok dB_0 rfl ?_
  refine w_i2l ok dB_1 ?_
  refine w_lneg ok dB_2 ?_
  refine w_iloadN ok dB_3 rfl ?_
  refine w_i2l ok dB_4 ?_
  refine w_callSV ok (argsL := [(.long (-(b.toInt64))), (.long (b.toInt64))]) (rest := []) (hw _ (List.mem_of_getElem? (i := 17) rfl)) (hw _ (List.mem_of_getElem? (i := 18) rfl)) (hw _ (List.mem_of_getElem? (i := 19) rfl)) (hw _ (List.mem_of_getElem? (i := 20) rfl)) (by decide) (rmR l Z a0 hw n0 _ _ h hb hb0) dB_5 (lenOf pd__JJ_J rfl) rfl rfl (Nat.le_of_ble_eq_true rfl) (Nat.le_of_ble_eq_true rfl) (k' := 0) (n' := 0) rfl rfl (Nat.le_of_ble_eq_true rfl) (Nat.le_of_ble_eq_true rfl) ?_
  rintro _ _ ⟨rfl, rfl⟩
  refine w_lstoreN ok (Ls' := #[.val (.ref a), .val (.int b), .val (.long (own_remU (-b.toInt64) b.toInt64)), .second, .unset, .unset]) dB_8 rfl ?_
  show Wp l ({ frames := 2, cells := 0, slots := 0, locals := 30 } : Room) n0 K (fun v h' => ∃ w, v = some w ∧ ∃ (r : Int32) (s : Int64), w = .int r ∧ Keep h h' [a] ∧ Exa Z h' a "com/example/cartolog/cartolog/engine/SplitMix64" ∧ Fld Z h' a "com/example/cartolog/cartolog/engine/SplitMix64" "counter" "J" (.long s) ∧ own_post b.toInt64 q r s) h 0 0 9 #[.val (.ref a), .val (.int b), .val (.long (own_ref b.toInt64)), .second, .unset, .unset] []
  have loop : ∀ (n : Nat) (s : Int64) (hh : Heap) (s5 s6 : Slot) (hs : (s5 = .unset ∧ s6 = .unset) ∨ ∃ z : Int64, s5 = .val (.long z) ∧ s6 = .second) (Z0 : n0 ≤ hh.size) (Kp : Keep h hh [a]) (E_a : Exa Z hh a "com/example/cartolog/cartolog/engine/SplitMix64") (F_a : Fld Z hh a "com/example/cartolog/cartolog/engine/SplitMix64" "counter" "J" (.long s)) (hn : s + Int64.ofNat (n + 1) * own_g = own_top) (hi : own_hist b.toInt64 q s), Wp l ({ frames := 2, cells := 0, slots := 0, locals := 30 } : Room) n0 K (fun v h' => ∃ w, v = some w ∧ ∃ (r : Int32) (s : Int64), w = .int r ∧ Keep h h' [a] ∧ Exa Z h' a "com/example/cartolog/cartolog/engine/SplitMix64" ∧ Fld Z h' a "com/example/cartolog/cartolog/engine/SplitMix64" "counter" "J" (.long s) ∧ own_post b.toInt64 q r s) hh 0 0 9 #[.val (.ref a), .val (.int b), .val (.long (own_ref b.toInt64)), .second, s5, s6] [] := by
    intro n
    induction n using Nat.strongRecOn with
    | _ n ih =>
      intro s hh s5 s6 hs Z0 Kp E_a F_a hn hi
      refine w_aloadN ok dB_9 rfl rfl ?_
      refine w_virtV ok (argsL := []) (rest := []) (hw _ (List.mem_of_getElem? (i := 22) rfl)) (hw _ (List.mem_of_getElem? (i := 23) rfl)) (hw _ (List.mem_of_getElem? (i := 25) rfl)) (hw _ (List.mem_of_getElem? (i := 24) rfl)) (hw _ (List.mem_of_getElem? (i := 3) rfl)) (hw _ (List.mem_of_getElem? (i := 26) rfl)) E_a (by decide) (rmN l Z a0 hw n0 a s hh Z0 gn_a E_a F_a) dB_10 (lenOf pd___J rfl) rfl rfl (Nat.le_of_ble_eq_true rfl) (Nat.le_of_ble_eq_true rfl) (k' := 0) (n' := 0) rfl rfl (Nat.le_of_ble_eq_true rfl) (Nat.le_of_ble_eq_true rfl) ?_
      rintro _ h2 ⟨rfl, Kc, E_a, F_a⟩
      have Z0 := Nat.le_trans Z0 Kc.1
      have Kp := Kp.trans Kc (allS (Or.inl (List.mem_of_getElem? (i := 0) rfl)) all0)
      have J15 : Wp l ({ frames := 2, cells := 0, slots := 0, locals := 30 } : Room) n0 K (fun v h' => ∃ w, v = some w ∧ ∃ (r : Int32) (s : Int64), w = .int r ∧ Keep h h' [a] ∧ Exa Z h' a "com/example/cartolog/cartolog/engine/SplitMix64" ∧ Fld Z h' a "com/example/cartolog/cartolog/engine/SplitMix64" "counter" "J" (.long s) ∧ own_post b.toInt64 q r s) h2 0 0 15 #[.val (.ref a), .val (.int b), .val (.long (own_ref b.toInt64)), .second, .val (.long (own_mix (s + (-7046029254386353131 : Int64)))), .second] [] := by
        refine w_lload ok dB_15 rfl ?_
        refine w_lloadN ok dB_17 rfl ?_
        refine w_callSV ok (argsL := [(.long (own_mix (s + (-7046029254386353131 : Int64)))), (.long (own_ref b.toInt64))]) (rest := []) (hw _ (List.mem_of_getElem? (i := 30) rfl)) (hw _ (List.mem_of_getElem? (i := 31) rfl)) (hw _ (List.mem_of_getElem? (i := 19) rfl)) (hw _ (List.mem_of_getElem? (i := 32) rfl)) (by decide) (rmD l Z a0 hw n0 _ _ h2) dB_18 (lenOf pd__JJ_I rfl) rfl rfl (Nat.le_of_ble_eq_true rfl) (Nat.le_of_ble_eq_true rfl) (k' := 0) (n' := 0) rfl rfl (Nat.le_of_ble_eq_true rfl) (Nat.le_of_ble_eq_true rfl) ?_
        rintro _ _ ⟨rfl, rfl⟩
        refine w_if_lt ok dB_21 (fun qq => ?_) (fun qq => ?_)
        · refine w_goto ok dB_33 ?_
          obtain ⟨m, rfl⟩ : ∃ m, n = m + 1 := by
            cases n with
            | zero => exact absurd qq (own_top_acc hb hbs hn)
            | succ m => exact ⟨m, rfl⟩
          exact ih m (by omega) _ _ _ _ (Or.inr ⟨_, rfl, rfl⟩) Z0 Kp E_a F_a (own_next hn) (own_hist_no hi qq)
        · refine w_lload ok dB_24 rfl ?_
          refine w_iloadN ok dB_26 rfl ?_
          refine w_i2l ok dB_27 ?_
          refine w_callSV ok (argsL := [(.long (own_mix (s + (-7046029254386353131 : Int64)))), (.long (b.toInt64))]) (rest := []) (hw _ (List.mem_of_getElem? (i := 17) rfl)) (hw _ (List.mem_of_getElem? (i := 18) rfl)) (hw _ (List.mem_of_getElem? (i := 19) rfl)) (hw _ (List.mem_of_getElem? (i := 20) rfl)) (by decide) (rmR l Z a0 hw n0 _ _ h2 hb hb0) dB_28 (lenOf pd__JJ_J rfl) rfl rfl (Nat.le_of_ble_eq_true rfl) (Nat.le_of_ble_eq_true rfl) (k' := 0) (n' := 0) rfl rfl (Nat.le_of_ble_eq_true rfl) (Nat.le_of_ble_eq_true rfl) ?_
          rintro _ _ ⟨rfl, rfl⟩
          refine w_l2i ok dB_31 ?_
          refine w_ireturnI ok dB_32 (Nat.le_of_ble_eq_true rfl) (Nat.le_of_ble_eq_true rfl) ?_
          exact ⟨_, rfl, _, _, rfl, Kp, E_a, F_a, own_hist_yes hb hbs hi qq⟩
      rcases hs with ⟨rfl, rfl⟩ | ⟨z, rfl, rfl⟩ <;> exact w_lstore ok (Ls' := #[.val (.ref a), .val (.int b), .val (.long (own_ref b.toInt64)), .second, .val (.long (own_mix (s + (-7046029254386353131 : Int64)))), .second]) dB_13 rfl J15
  obtain ⟨n, hn⟩ := own_reach q own_top
  exact loop n q h .unset .unset (Or.inl ⟨rfl, rfl⟩) Z0 Kp E_a F_a hn (Or.inl rfl)
theorem dT_0 : Fet method_3_code 0 3 (.ldc2_w 9) 3 := ⟨by decide +kernel, rfl⟩
theorem dT_3 : Fet method_3_code 3 4 (.lload_n 0) 1 := ⟨by decide +kernel, rfl⟩
theorem dT_4 : Fet method_3_code 4 5 (.lrem) 1 := ⟨by decide +kernel, rfl⟩
theorem dT_5 : Fet method_3_code 5 6 (.lconst 1) 1 := ⟨by decide +kernel, rfl⟩
theorem dT_6 : Fet method_3_code 6 7 (.ladd) 1 := ⟨by decide +kernel, rfl⟩
theorem dT_7 : Fet method_3_code 7 8 (.lload_n 0) 1 := ⟨by decide +kernel, rfl⟩
theorem dT_8 : Fet method_3_code 8 9 (.lrem) 1 := ⟨by decide +kernel, rfl⟩
theorem dT_9 : Fet method_3_code 9 10 (.lstore_n 2) 1 := ⟨by decide +kernel, rfl⟩
theorem dT_10 : Fet method_3_code 10 13 (.ldc2_w 11) 3 := ⟨by decide +kernel, rfl⟩
theorem dT_13 : Fet method_3_code 13 14 (.lload_n 2) 1 := ⟨by decide +kernel, rfl⟩
theorem dT_14 : Fet method_3_code 14 15 (.lmul) 1 := ⟨by decide +kernel, rfl⟩
theorem dT_15 : Fet method_3_code 15 16 (.lload_n 0) 1 := ⟨by decide +kernel, rfl⟩
theorem dT_16 : Fet method_3_code 16 17 (.lrem) 1 := ⟨by decide +kernel, rfl⟩
theorem dT_17 : Fet method_3_code 17 18 (.lreturn) 1 := ⟨by decide +kernel, rfl⟩
theorem pn_com_example_cartolog_cartolog_engine_SplitMix64BelowPinLaw : plainName "com/example/cartolog/cartolog/engine/SplitMix64BelowPinLaw" = true := by first | (simp [plainName, overriddenIn]; done) | decide +kernel
set_option maxRecDepth 65536 in
set_option maxHeartbeats 4000000 in
theorem rmT (l : Launch) (Z : State) (a0 : Array Value) (hw : ∀ d ∈ tables_1, d.before a0 Z = true) (n0 : Nat) (m : Int64) (h : Heap) (hm0 : m ≠ 0) :
    ConV l Z n0 (⟨"com/example/cartolog/cartolog/engine/SplitMix64BelowPinLaw", "twoTo64Mod", "(J)J"⟩ : MethodName) method_3_code 4 (some .long) [] ({ frames := 0, cells := 0, slots := 0, locals := 0 } : Room) #[(.long m)] h (fun w h' => w = .long (own_two m) ∧ h = h') := by
  refine con_of_wp (Ls := #[.val (.long m), .second, .unset, .unset]) (plainFor_of_name pn_com_example_cartolog_cartolog_engine_SplitMix64BelowPinLaw) (fun m => by first | (simp [entryFrame, mkF, argsToLocals, Value.category]; done) | rfl) ?_
  intro K ok
  replace ok : Ok Z K method_3_code "com/example/cartolog/cartolog/engine/SplitMix64BelowPinLaw" "twoTo64Mod" 4 (some .long) := ok
  show Wp l ({ frames := 0, cells := 0, slots := 0, locals := 0 } : Room) n0 K (fun v h' => ∃ w, v = some w ∧ w = .long (own_two m) ∧ h = h') h 0 0 0 #[.val (.long m), .second, .unset, .unset] []
  refine w_ldc2 ok (hw _ (List.mem_of_getElem? (i := 41) rfl)) dT_0 ?_
  refine w_lloadN ok dT_3 rfl ?_
  refine w_lrem ok dT_4 hm0 ?_
  refine w_lconst ok (z := 1) dT_5 rfl ?_
  refine w_ladd ok dT_6 ?_
  refine w_lloadN ok dT_7 rfl ?_
  refine w_lrem ok dT_8 hm0 ?_
  refine w_lstoreN ok (Ls' := #[.val (.long m), .second, .val (.long ((((9223372036854775807 : Int64) % m) + (1 : Int64)) % m)), .second]) dT_9 rfl ?_
  generalize ht : ((((9223372036854775807 : Int64) % m) + (1 : Int64)) % m) = t
  refine w_ldc2 ok (hw _ (List.mem_of_getElem? (i := 42) rfl)) dT_10 ?_
  refine w_lloadN ok dT_13 rfl ?_
  refine w_lmul ok dT_14 ?_
  refine w_lloadN ok dT_15 rfl ?_
  refine w_lrem ok dT_16 hm0 ?_
  refine w_lreturn ok dT_17 (Nat.le_of_ble_eq_true rfl) (Nat.le_of_ble_eq_true rfl) ?_
  subst ht
  exact ⟨_, rfl, rfl, rfl⟩
theorem dA_0 : Fet method_4_code 0 1 (.lload_n 0) 1 := ⟨by decide +kernel, rfl⟩
theorem dA_1 : Fet method_4_code 1 2 (.lconst 0) 1 := ⟨by decide +kernel, rfl⟩
theorem dA_2 : Fet method_4_code 2 3 (.lcmp) 1 := ⟨by decide +kernel, rfl⟩
theorem dA_3 : Brn method_4_code 3 6 12 (.ifCond .lt 9) 9 := ⟨by decide +kernel, rfl, by decide, by decide⟩
theorem dA_12 : Fet method_4_code 12 13 (.iconst 1) 1 := ⟨by decide +kernel, rfl⟩
theorem dA_13 : Brn method_4_code 13 16 17 (.goto 4) 4 := ⟨by decide +kernel, rfl, by decide, by decide⟩
theorem dA_17 : Fet method_4_code 17 18 (.ireturn) 1 := ⟨by decide +kernel, rfl⟩
theorem dA_6 : Fet method_4_code 6 7 (.lload_n 0) 1 := ⟨by decide +kernel, rfl⟩
theorem dA_7 : Fet method_4_code 7 8 (.lload_n 2) 1 := ⟨by decide +kernel, rfl⟩
theorem dA_8 : Fet method_4_code 8 9 (.lcmp) 1 := ⟨by decide +kernel, rfl⟩
theorem dA_9 : Brn method_4_code 9 12 16 (.ifCond .lt 7) 7 := ⟨by decide +kernel, rfl, by decide, by decide⟩
theorem dA_16 : Fet method_4_code 16 17 (.iconst 0) 1 := ⟨by decide +kernel, rfl⟩
set_option maxRecDepth 65536 in
set_option maxHeartbeats 4000000 in
theorem rmA (l : Launch) (Z : State) (a0 : Array Value) (hw : ∀ d ∈ tables_1, d.before a0 Z = true) (n0 : Nat) (d e : Int64) (h : Heap) :
    ConV l Z n0 (⟨"com/example/cartolog/cartolog/engine/SplitMix64BelowPinLaw", "accepted", "(JJ)Z"⟩ : MethodName) method_4_code 4 (some .boolean) [] ({ frames := 0, cells := 0, slots := 0, locals := 0 } : Room) #[(.long d), (.long e)] h (fun w h' => w = .int (own_accd d e) ∧ h = h') := by
  refine con_of_wp (Ls := #[.val (.long d), .second, .val (.long e), .second]) (plainFor_of_name pn_com_example_cartolog_cartolog_engine_SplitMix64BelowPinLaw) (fun m => by first | (simp [entryFrame, mkF, argsToLocals, Value.category]; done) | rfl) ?_
  intro K ok
  replace ok : Ok Z K method_4_code "com/example/cartolog/cartolog/engine/SplitMix64BelowPinLaw" "accepted" 4 (some .boolean) := ok
  show Wp l ({ frames := 0, cells := 0, slots := 0, locals := 0 } : Room) n0 K (fun v h' => ∃ w, v = some w ∧ w = .int (own_accd d e) ∧ h = h') h 0 0 0 #[.val (.long d), .second, .val (.long e), .second] []
  refine w_lloadN ok dA_0 rfl ?_
  refine w_lconst ok (z := 0) dA_1 rfl ?_
  refine w_lc_lt ok dA_2 dA_3 (fun q0 => ?_) (fun q0 => ?_)
  · refine w_iconst ok (z := 1) dA_12 rfl ?_
    refine w_goto ok dA_13 ?_
    refine w_ireturnN ok (by simp) dA_17 (Nat.le_of_ble_eq_true rfl) (Nat.le_of_ble_eq_true rfl) ?_
    exact ⟨_, rfl, by rw [show own_accd d e = 1 by simp [own_accd, q0]]; rfl, rfl⟩
  · refine w_lloadN ok dA_6 rfl ?_
    refine w_lloadN ok dA_7 rfl ?_
    refine w_lc_lt ok dA_8 dA_9 (fun q1 => ?_) (fun q1 => ?_)
    · refine w_iconst ok (z := 0) dA_16 rfl ?_
      refine w_ireturnN ok (by simp) dA_17 (Nat.le_of_ble_eq_true rfl) (Nat.le_of_ble_eq_true rfl) ?_
      exact ⟨_, rfl, by rw [show own_accd d e = 0 by simp only [own_accd, if_neg q0, if_pos q1]]; rfl, rfl⟩
    · refine w_iconst ok (z := 1) dA_12 rfl ?_
      refine w_goto ok dA_13 ?_
      refine w_ireturnN ok (by simp) dA_17 (Nat.le_of_ble_eq_true rfl) (Nat.le_of_ble_eq_true rfl) ?_
      exact ⟨_, rfl, by rw [show own_accd d e = 1 by simp only [own_accd, if_neg q0, if_neg q1]]; rfl, rfl⟩
theorem dU_0 : Fet method_2_code 0 1 (.lload_n 0) 1 := ⟨by decide +kernel, rfl⟩
theorem dU_1 : Fet method_2_code 1 2 (.lconst 0) 1 := ⟨by decide +kernel, rfl⟩
theorem dU_2 : Fet method_2_code 2 3 (.lcmp) 1 := ⟨by decide +kernel, rfl⟩
theorem dU_3 : Brn method_2_code 3 6 10 (.ifCond .lt 7) 7 := ⟨by decide +kernel, rfl, by decide, by decide⟩
theorem dU_6 : Fet method_2_code 6 7 (.lload_n 0) 1 := ⟨by decide +kernel, rfl⟩
theorem dU_7 : Fet method_2_code 7 8 (.lload_n 2) 1 := ⟨by decide +kernel, rfl⟩
theorem dU_8 : Fet method_2_code 8 9 (.lrem) 1 := ⟨by decide +kernel, rfl⟩
theorem dU_9 : Fet method_2_code 9 10 (.lreturn) 1 := ⟨by decide +kernel, rfl⟩
theorem dU_10 : Fet method_2_code 10 11 (.lload_n 0) 1 := ⟨by decide +kernel, rfl⟩
theorem dU_11 : Fet method_2_code 11 12 (.iconst 1) 1 := ⟨by decide +kernel, rfl⟩
theorem dU_12 : Fet method_2_code 12 13 (.lushr) 1 := ⟨by decide +kernel, rfl⟩
theorem dU_13 : Fet method_2_code 13 14 (.lload_n 2) 1 := ⟨by decide +kernel, rfl⟩
theorem dU_14 : Fet method_2_code 14 15 (.ldiv) 1 := ⟨by decide +kernel, rfl⟩
theorem dU_15 : Fet method_2_code 15 16 (.iconst 1) 1 := ⟨by decide +kernel, rfl⟩
theorem dU_16 : Fet method_2_code 16 17 (.lshl) 1 := ⟨by decide +kernel, rfl⟩
theorem dU_17 : Fet method_2_code 17 19 (.lstore 4) 2 := ⟨by decide +kernel, rfl⟩
theorem dU_19 : Fet method_2_code 19 20 (.lload_n 0) 1 := ⟨by decide +kernel, rfl⟩
theorem dU_20 : Fet method_2_code 20 22 (.lload 4) 2 := ⟨by decide +kernel, rfl⟩
theorem dU_22 : Fet method_2_code 22 23 (.lload_n 2) 1 := ⟨by decide +kernel, rfl⟩
theorem dU_23 : Fet method_2_code 23 24 (.lmul) 1 := ⟨by decide +kernel, rfl⟩
theorem dU_24 : Fet method_2_code 24 25 (.lsub) 1 := ⟨by decide +kernel, rfl⟩
theorem dU_25 : Fet method_2_code 25 27 (.lstore 6) 2 := ⟨by decide +kernel, rfl⟩
theorem dU_27 : Fet method_2_code 27 29 (.lload 6) 2 := ⟨by decide +kernel, rfl⟩
theorem dU_29 : Fet method_2_code 29 30 (.lload_n 2) 1 := ⟨by decide +kernel, rfl⟩
theorem dU_30 : Fet method_2_code 30 31 (.lcmp) 1 := ⟨by decide +kernel, rfl⟩
theorem dU_31 : Brn method_2_code 31 34 40 (.ifCond .lt 9) 9 := ⟨by decide +kernel, rfl, by decide, by decide⟩
theorem dU_40 : Fet method_2_code 40 42 (.lload 6) 2 := ⟨by decide +kernel, rfl⟩
theorem dU_42 : Fet method_2_code 42 43 (.lreturn) 1 := ⟨by decide +kernel, rfl⟩
theorem dU_34 : Fet method_2_code 34 36 (.lload 6) 2 := ⟨by decide +kernel, rfl⟩
theorem dU_36 : Fet method_2_code 36 37 (.lload_n 2) 1 := ⟨by decide +kernel, rfl⟩
theorem dU_37 : Fet method_2_code 37 38 (.lsub) 1 := ⟨by decide +kernel, rfl⟩
theorem dU_38 : Fet method_2_code 38 40 (.lstore 6) 2 := ⟨by decide +kernel, rfl⟩
set_option maxRecDepth 65536 in
set_option maxHeartbeats 4000000 in
theorem rmU (l : Launch) (Z : State) (a0 : Array Value) (hw : ∀ d ∈ tables_1, d.before a0 Z = true) (n0 : Nat) (d m : Int64) (h : Heap) (hm0 : m ≠ 0) :
    ConV l Z n0 (⟨"com/example/cartolog/cartolog/engine/SplitMix64BelowPinLaw", "urem", "(JJ)J"⟩ : MethodName) method_2_code 8 (some .long) [] ({ frames := 0, cells := 0, slots := 0, locals := 0 } : Room) #[(.long d), (.long m)] h (fun w h' => w = .long (own_urem d m) ∧ h = h') := by
  refine con_of_wp (Ls := #[.val (.long d), .second, .val (.long m), .second, .unset, .unset, .unset, .unset]) (plainFor_of_name pn_com_example_cartolog_cartolog_engine_SplitMix64BelowPinLaw) (fun m => by first | (simp [entryFrame, mkF, argsToLocals, Value.category]; done) | rfl) ?_
  intro K ok
  replace ok : Ok Z K method_2_code "com/example/cartolog/cartolog/engine/SplitMix64BelowPinLaw" "urem" 8 (some .long) := ok
  show Wp l ({ frames := 0, cells := 0, slots := 0, locals := 0 } : Room) n0 K (fun v h' => ∃ w, v = some w ∧ w = .long (own_urem d m) ∧ h = h') h 0 0 0 #[.val (.long d), .second, .val (.long m), .second, .unset, .unset, .unset, .unset] []
  refine w_lloadN ok dU_0 rfl ?_
  refine w_lconst ok (z := 0) dU_1 rfl ?_
  refine w_lc_lt ok dU_2 dU_3 (fun q0 => ?_) (fun q0 => ?_)
  · refine w_lloadN ok dU_10 rfl ?_
    refine w_iconst ok (z := 1) dU_11 rfl ?_
    refine w_lushr ok dU_12 ?_
    refine w_lloadN ok dU_13 rfl ?_
    refine w_ldiv ok dU_14 hm0 ?_
    refine w_iconst ok (z := 1) dU_15 rfl ?_
    refine w_lshl ok dU_16 ?_
    refine w_lstore ok (Ls' := #[.val (.long d), .second, .val (.long m), .second, .val (.long ((((d.toUInt64 >>> ((1 : Int32) &&& 0x3f).toInt64.toUInt64).toInt64) / m) <<< ((1 : Int32) &&& 0x3f).toInt64)), .second, .unset, .unset]) dU_17 rfl ?_
    generalize hqq : ((((d.toUInt64 >>> ((1 : Int32) &&& 0x3f).toInt64.toUInt64).toInt64) / m) <<< ((1 : Int32) &&& 0x3f).toInt64) = qq
    refine w_lloadN ok dU_19 rfl ?_
    refine w_lload ok dU_20 rfl ?_
    refine w_lloadN ok dU_22 rfl ?_
    refine w_lmul ok dU_23 ?_
    refine w_lsub ok dU_24 ?_
    refine w_lstore ok (Ls' := #[.val (.long d), .second, .val (.long m), .second, .val (.long qq), .second, .val (.long (d - (qq * m))), .second]) dU_25 rfl ?_
    generalize hrr : (d - (qq * m)) = rr
    refine w_lload ok dU_27 rfl ?_
    refine w_lloadN ok dU_29 rfl ?_
    refine w_lc_lt ok dU_30 dU_31 (fun q1 => ?_) (fun q1 => ?_)
    · refine w_lload ok dU_40 rfl ?_
      refine w_lreturn ok dU_42 (Nat.le_of_ble_eq_true rfl) (Nat.le_of_ble_eq_true rfl) ?_
      subst hrr hqq
      exact ⟨_, rfl, by rw [own_urem, if_pos q0]; simp only []; rw [if_pos q1], rfl⟩
    · refine w_lload ok dU_34 rfl ?_
      refine w_lloadN ok dU_36 rfl ?_
      refine w_lsub ok dU_37 ?_
      refine w_lstore ok (Ls' := #[.val (.long d), .second, .val (.long m), .second, .val (.long qq), .second, .val (.long (rr - m)), .second]) dU_38 rfl ?_
      refine w_lload ok dU_40 rfl ?_
      refine w_lreturn ok dU_42 (Nat.le_of_ble_eq_true rfl) (Nat.le_of_ble_eq_true rfl) ?_
      subst hrr hqq
      exact ⟨_, rfl, by rw [own_urem, if_pos q0]; simp only []; rw [if_neg q1], rfl⟩
  · refine w_lloadN ok dU_6 rfl ?_
    refine w_lloadN ok dU_7 rfl ?_
    refine w_lrem ok dU_8 hm0 ?_
    refine w_lreturn ok dU_9 (Nat.le_of_ble_eq_true rfl) (Nat.le_of_ble_eq_true rfl) ?_
    exact ⟨_, rfl, by rw [show own_urem d m = d % m by simp only [own_urem, if_neg q0]], rfl⟩
theorem d0_0 : Fet code 0 1 (.iload_n 2) 1 := ⟨by decide +kernel, rfl⟩
theorem d0_1 : Fet code 1 3 (.ldc 13) 2 := ⟨by decide +kernel, rfl⟩
theorem d0_3 : Fet code 3 4 (.iand) 1 := ⟨by decide +kernel, rfl⟩
theorem d0_4 : Fet code 4 5 (.istore_n 3) 1 := ⟨by decide +kernel, rfl⟩
theorem d0_5 : Fet code 5 6 (.iload_n 3) 1 := ⟨by decide +kernel, rfl⟩
theorem d0_11 : Fet code 11 14 (.new 14) 3 := ⟨by decide +kernel, rfl⟩
theorem d0_14 : Fet code 14 15 (.dup) 1 := ⟨by decide +kernel, rfl⟩
theorem d0_15 : Fet code 15 16 (.lload_n 0) 1 := ⟨by decide +kernel, rfl⟩
theorem d0_16 : Fet code 16 19 (.invokespecial 16) 3 := ⟨by decide +kernel, rfl⟩
theorem pd__J_V : parseMethodDescriptor "(J)V" = some ⟨[.long], none⟩ := by decide +kernel
theorem d0_19 : Fet code 19 21 (.astore 4) 2 := ⟨by decide +kernel, rfl⟩
theorem d0_21 : Fet code 21 24 (.new 14) 3 := ⟨by decide +kernel, rfl⟩
theorem d0_24 : Fet code 24 25 (.dup) 1 := ⟨by decide +kernel, rfl⟩
theorem d0_25 : Fet code 25 26 (.lload_n 0) 1 := ⟨by decide +kernel, rfl⟩
theorem d0_26 : Fet code 26 29 (.invokespecial 16) 3 := ⟨by decide +kernel, rfl⟩
theorem d0_29 : Fet code 29 31 (.astore 5) 2 := ⟨by decide +kernel, rfl⟩
theorem d0_31 : Fet code 31 33 (.aload 4) 2 := ⟨by decide +kernel, rfl⟩
theorem d0_33 : Fet code 33 34 (.iload_n 3) 1 := ⟨by decide +kernel, rfl⟩
theorem d0_34 : Fet code 34 37 (.invokevirtual 19) 3 := ⟨by decide +kernel, rfl⟩
theorem pd__I_I : parseMethodDescriptor "(I)I" = some ⟨[.int], some .int⟩ := by decide +kernel
theorem d0_37 : Fet code 37 39 (.istore 6) 2 := ⟨by decide +kernel, rfl⟩
theorem d0_39 : Fet code 39 40 (.iload_n 3) 1 := ⟨by decide +kernel, rfl⟩
theorem d0_40 : Fet code 40 41 (.i2l) 1 := ⟨by decide +kernel, rfl⟩
theorem d0_41 : Fet code 41 43 (.lstore 7) 2 := ⟨by decide +kernel, rfl⟩
theorem d0_43 : Fet code 43 45 (.lload 7) 2 := ⟨by decide +kernel, rfl⟩
theorem d0_45 : Fet code 45 48 (.invokestatic 23) 3 := ⟨by decide +kernel, rfl⟩
theorem pd__J_J : parseMethodDescriptor "(J)J" = some ⟨[.long], some .long⟩ := by decide +kernel
theorem d0_48 : Fet code 48 50 (.lstore 9) 2 := ⟨by decide +kernel, rfl⟩
theorem d0_50 : Fet code 50 52 (.aload 5) 2 := ⟨by decide +kernel, rfl⟩
theorem d0_52 : Fet code 52 55 (.invokevirtual 29) 3 := ⟨by decide +kernel, rfl⟩
theorem d0_55 : Fet code 55 57 (.lstore 11) 2 := ⟨by decide +kernel, rfl⟩
theorem d0_57 : Fet code 57 59 (.lload 11) 2 := ⟨by decide +kernel, rfl⟩
theorem d0_59 : Fet code 59 61 (.lload 9) 2 := ⟨by decide +kernel, rfl⟩
theorem d0_61 : Fet code 61 64 (.invokestatic 33) 3 := ⟨by decide +kernel, rfl⟩
theorem pd__JJ_Z : parseMethodDescriptor "(JJ)Z" = some ⟨[.long, .long], some .boolean⟩ := by decide +kernel
theorem d0_64 : Brn code 64 67 100 (.ifCond .eq 36) 36 := ⟨by decide +kernel, rfl, by decide, by decide⟩
theorem d0_67 : Fet code 67 69 (.iload 6) 2 := ⟨by decide +kernel, rfl⟩
theorem d0_69 : Fet code 69 71 (.lload 11) 2 := ⟨by decide +kernel, rfl⟩
theorem d0_71 : Fet code 71 73 (.lload 7) 2 := ⟨by decide +kernel, rfl⟩
theorem d0_73 : Fet code 73 76 (.invokestatic 37) 3 := ⟨by decide +kernel, rfl⟩
theorem d0_76 : Fet code 76 77 (.l2i) 1 := ⟨by decide +kernel, rfl⟩
theorem d0_77 : Brn code 77 80 98 (.if_icmp .ne 21) 21 := ⟨by decide +kernel, rfl, by decide, by decide⟩
theorem d0_80 : Fet code 80 82 (.aload 4) 2 := ⟨by decide +kernel, rfl⟩
theorem d0_82 : Fet code 82 85 (.invokevirtual 29) 3 := ⟨by decide +kernel, rfl⟩
theorem d0_85 : Fet code 85 87 (.aload 5) 2 := ⟨by decide +kernel, rfl⟩
theorem d0_87 : Fet code 87 90 (.invokevirtual 29) 3 := ⟨by decide +kernel, rfl⟩
theorem d0_90 : Fet code 90 91 (.lcmp) 1 := ⟨by decide +kernel, rfl⟩
theorem d0_91 : Brn code 91 94 98 (.ifCond .ne 7) 7 := ⟨by decide +kernel, rfl, by decide, by decide⟩
theorem d0_94 : Fet code 94 95 (.iconst 1) 1 := ⟨by decide +kernel, rfl⟩
theorem d0_95 : Brn code 95 98 99 (.goto 4) 4 := ⟨by decide +kernel, rfl, by decide, by decide⟩
theorem d0_99 : Fet code 99 100 (.ireturn) 1 := ⟨by decide +kernel, rfl⟩
theorem d0_100 : Fet code 100 102 (.aload 5) 2 := ⟨by decide +kernel, rfl⟩
theorem d0_102 : Fet code 102 105 (.invokevirtual 29) 3 := ⟨by decide +kernel, rfl⟩
theorem d0_105 : Fet code 105 107 (.lstore 13) 2 := ⟨by decide +kernel, rfl⟩
theorem d0_107 : Fet code 107 109 (.lload 13) 2 := ⟨by decide +kernel, rfl⟩
theorem d0_109 : Fet code 109 111 (.lload 9) 2 := ⟨by decide +kernel, rfl⟩
theorem d0_111 : Fet code 111 114 (.invokestatic 33) 3 := ⟨by decide +kernel, rfl⟩
theorem d0_114 : Brn code 114 117 150 (.ifCond .eq 36) 36 := ⟨by decide +kernel, rfl, by decide, by decide⟩
theorem d0_117 : Fet code 117 119 (.iload 6) 2 := ⟨by decide +kernel, rfl⟩
theorem d0_119 : Fet code 119 121 (.lload 13) 2 := ⟨by decide +kernel, rfl⟩
theorem d0_121 : Fet code 121 123 (.lload 7) 2 := ⟨by decide +kernel, rfl⟩
theorem d0_123 : Fet code 123 126 (.invokestatic 37) 3 := ⟨by decide +kernel, rfl⟩
theorem d0_126 : Fet code 126 127 (.l2i) 1 := ⟨by decide +kernel, rfl⟩
theorem d0_127 : Brn code 127 130 148 (.if_icmp .ne 21) 21 := ⟨by decide +kernel, rfl, by decide, by decide⟩
theorem d0_130 : Fet code 130 132 (.aload 4) 2 := ⟨by decide +kernel, rfl⟩
theorem d0_132 : Fet code 132 135 (.invokevirtual 29) 3 := ⟨by decide +kernel, rfl⟩
theorem d0_135 : Fet code 135 137 (.aload 5) 2 := ⟨by decide +kernel, rfl⟩
theorem d0_137 : Fet code 137 140 (.invokevirtual 29) 3 := ⟨by decide +kernel, rfl⟩
theorem d0_140 : Fet code 140 141 (.lcmp) 1 := ⟨by decide +kernel, rfl⟩
theorem d0_141 : Brn code 141 144 148 (.ifCond .ne 7) 7 := ⟨by decide +kernel, rfl, by decide, by decide⟩
theorem d0_144 : Fet code 144 145 (.iconst 1) 1 := ⟨by decide +kernel, rfl⟩
theorem d0_145 : Brn code 145 148 149 (.goto 4) 4 := ⟨by decide +kernel, rfl, by decide, by decide⟩
theorem d0_149 : Fet code 149 150 (.ireturn) 1 := ⟨by decide +kernel, rfl⟩
theorem d0_150 : Fet code 150 152 (.iload 6) 2 := ⟨by decide +kernel, rfl⟩
theorem d0_152 : Brn code 152 155 165 (.ifCond .lt 13) 13 := ⟨by decide +kernel, rfl, by decide, by decide⟩
theorem d0_155 : Fet code 155 157 (.iload 6) 2 := ⟨by decide +kernel, rfl⟩
theorem d0_157 : Fet code 157 158 (.iload_n 3) 1 := ⟨by decide +kernel, rfl⟩
theorem d0_158 : Brn code 158 161 165 (.if_icmp .ge 7) 7 := ⟨by decide +kernel, rfl, by decide, by decide⟩
theorem d0_161 : Fet code 161 162 (.iconst 1) 1 := ⟨by decide +kernel, rfl⟩
theorem d0_162 : Brn code 162 165 166 (.goto 4) 4 := ⟨by decide +kernel, rfl, by decide, by decide⟩
theorem d0_166 : Fet code 166 167 (.ireturn) 1 := ⟨by decide +kernel, rfl⟩
theorem d0_6 : Brn code 6 9 11 (.ifCond .ne 5) 5 := ⟨by decide +kernel, rfl, by decide, by decide⟩
theorem d0_9 : Fet code 9 10 (.iconst 1) 1 := ⟨by decide +kernel, rfl⟩
theorem d0_10 : Fet code 10 11 (.istore_n 3) 1 := ⟨by decide +kernel, rfl⟩
set_option maxRecDepth 65536 in
set_option maxHeartbeats 4000000 in
theorem rm0 (l : Launch) (Z : State) (a0 : Array Value) (hw : ∀ d ∈ tables_1, d.before a0 Z = true) (n0 : Nat) (q : Int64) (bb : Int32) (h : Heap) (Z0 : n0 ≤ h.size) :
    ConV l Z n0 x code maxLocals ret tables_1 room_1 #[(.long q), (.int bb)] h (fun w h' => w = .int 1) := by
  refine con_of_wp (Ls := #[.val (.long q), .second, .val (.int bb), .unset, .unset, .unset, .unset, .unset, .unset, .unset, .unset, .unset, .unset, .unset, .unset]) (plainFor_of_name pn_com_example_cartolog_cartolog_engine_SplitMix64BelowPinLaw) (fun m => by first | (simp [entryFrame, mkF, argsToLocals, Value.category, maxLocals]; done) | rfl) ?_
  intro K ok
  replace ok : Ok Z K code "com/example/cartolog/cartolog/engine/SplitMix64BelowPinLaw" "law" 15 (some .boolean) := ok
  show Wp l room_1 n0 K (fun v h' => ∃ w, v = some w ∧ w = .int 1) h 0 0 0 #[.val (.long q), .second, .val (.int bb), .unset, .unset, .unset, .unset, .unset, .unset, .unset, .unset, .unset, .unset, .unset, .unset] []
  refine w_iloadN ok d0_0 rfl ?_
  refine w_ldc ok (hw _ (List.mem_of_getElem? (i := 0) rfl)) d0_1 ?_
  refine w_iand ok d0_3 ?_
  refine w_istoreN ok (Ls' := #[.val (.long q), .second, .val (.int bb), .val (.int (bb &&& (2147483647 : Int32))), .unset, .unset, .unset, .unset, .unset, .unset, .unset, .unset, .unset, .unset, .unset]) d0_4 rfl ?_
  refine w_iloadN ok d0_5 rfl ?_
  have J11 : ∀ (b : Int32) (hb : 0 < b.toInt64) (hbs : b.toInt64.toInt < 2147483648), Wp l room_1 n0 K (fun v h' => ∃ w, v = some w ∧ w = .int 1) h 0 0 11 #[.val (.long q), .second, .val (.int bb), .val (.int b), .unset, .unset, .unset, .unset, .unset, .unset, .unset, .unset, .unset, .unset, .unset] [] := by
    intro b hb hbs
    have hb0 : b.toInt64 ≠ 0 := fun e => absurd (e ▸ hb) (by decide)
    refine w_new ok (hw _ (List.mem_of_getElem? (i := 1) rfl)) (hw _ (List.mem_of_getElem? (i := 2) rfl)) (hw _ (List.mem_of_getElem? (i := 3) rfl)) d0_11 (k' := 1) (n' := 1) rfl rfl (Nat.le_of_ble_eq_true rfl) (Nat.le_of_ble_eq_true rfl) (fun h1 b1 g1 E1 A1 D1 => ?_)
    have gn_b1 : n0 ≤ b1 := Nat.le_trans Z0 (Nat.le_of_eq g1.symm)
    have Z0 := Nat.le_trans Z0 E1.1
    have F_b1_counter : Fld Z h1 b1 "com/example/cartolog/cartolog/engine/SplitMix64" "counter" "J" (.long (0 : Int64)) := D1 (Or.inl (hw _ (List.mem_of_getElem? (i := 11) rfl))) (ty := .long) (by decide)
    refine w_dup ok d0_14 rfl ?_
    refine w_lloadN ok d0_15 rfl ?_
    refine w_init ok (argsL := [(.long q)]) (rest := [(.ref b1)]) rfl rfl (hw _ (List.mem_of_getElem? (i := 4) rfl)) (hw _ (List.mem_of_getElem? (i := 5) rfl)) (hw _ (List.mem_of_getElem? (i := 3) rfl)) (hw _ (List.mem_of_getElem? (i := 6) rfl)) (by decide) (rmI l Z a0 hw n0 b1 q h1 Z0 gn_b1 A1 F_b1_counter) d0_16 (lenOf pd__J_V rfl) rfl rfl (Nat.le_of_ble_eq_true rfl) (Nat.le_of_ble_eq_true rfl) (k' := 1) (n' := 1) rfl rfl (Nat.le_of_ble_eq_true rfl) (Nat.le_of_ble_eq_true rfl) ?_
    rintro hc1 ⟨Kc, A1, F_b1_counter⟩
    have Z0 := Nat.le_trans Z0 Kc.1
    refine w_astore ok (Ls' := #[.val (.long q), .second, .val (.int bb), .val (.int b), .val (.ref b1), .unset, .unset, .unset, .unset, .unset, .unset, .unset, .unset, .unset, .unset]) d0_19 rfl rfl ?_
    refine w_new ok (hw _ (List.mem_of_getElem? (i := 1) rfl)) (hw _ (List.mem_of_getElem? (i := 2) rfl)) (hw _ (List.mem_of_getElem? (i := 3) rfl)) d0_21 (k' := 2) (n' := 2) rfl rfl (Nat.le_of_ble_eq_true rfl) (Nat.le_of_ble_eq_true rfl) (fun h2 b2 g2 E2 A2 D2 => ?_)
    have ne_b1_b2 : b1 ≠ b2 := Nat.ne_of_lt (Nat.lt_of_lt_of_le A1.lt (Nat.le_of_eq g2.symm))
    have gn_b2 : n0 ≤ b2 := Nat.le_trans Z0 (Nat.le_of_eq g2.symm)
    have Z0 := Nat.le_trans Z0 E2.1
    have A1 := A1.ext E2
    have F_b1_counter := F_b1_counter.ext E2
    have F_b2_counter : Fld Z h2 b2 "com/example/cartolog/cartolog/engine/SplitMix64" "counter" "J" (.long (0 : Int64)) := D2 (Or.inl (hw _ (List.mem_of_getElem? (i := 11) rfl))) (ty := .long) (by decide)
    refine w_dup ok d0_24 rfl ?_
    refine w_lloadN ok d0_25 rfl ?_
    refine w_init ok (argsL := [(.long q)]) (rest := [(.ref b2)]) rfl rfl (hw _ (List.mem_of_getElem? (i := 4) rfl)) (hw _ (List.mem_of_getElem? (i := 5) rfl)) (hw _ (List.mem_of_getElem? (i := 3) rfl)) (hw _ (List.mem_of_getElem? (i := 6) rfl)) (by decide) (rmI l Z a0 hw n0 b2 q h2 Z0 gn_b2 A2 F_b2_counter) d0_26 (lenOf pd__J_V rfl) rfl rfl (Nat.le_of_ble_eq_true rfl) (Nat.le_of_ble_eq_true rfl) (k' := 2) (n' := 2) rfl rfl (Nat.le_of_ble_eq_true rfl) (Nat.le_of_ble_eq_true rfl) ?_
    rintro hc2 ⟨Kc, A2, F_b2_counter⟩
    have A1 := A1.keep Kc
    have F_b1_counter := F_b1_counter.keep Kc (ninS ne_b1_b2 nin0)
    have Z0 := Nat.le_trans Z0 Kc.1
    refine w_astore ok (Ls' := #[.val (.long q), .second, .val (.int bb), .val (.int b), .val (.ref b1), .val (.ref b2), .unset, .unset, .unset, .unset, .unset, .unset, .unset, .unset, .unset]) d0_29 rfl rfl ?_
    refine w_aload ok d0_31 rfl rfl ?_
    refine w_iloadN ok d0_33 rfl ?_
    refine w_virtV ok (argsL := [(.int b)]) (rest := []) (hw _ (List.mem_of_getElem? (i := 12) rfl)) (hw _ (List.mem_of_getElem? (i := 13) rfl)) (hw _ (List.mem_of_getElem? (i := 15) rfl)) (hw _ (List.mem_of_getElem? (i := 14) rfl)) (hw _ (List.mem_of_getElem? (i := 3) rfl)) (hw _ (List.mem_of_getElem? (i := 16) rfl)) A1 (by decide) (rmB l Z a0 hw n0 b1 q b hc2 Z0 gn_b1 A1 F_b1_counter hb hbs hb0) d0_34 (lenOf pd__I_I rfl) rfl rfl (Nat.le_of_ble_eq_true rfl) (Nat.le_of_ble_eq_true rfl) (k' := 2) (n' := 2) rfl rfl (Nat.le_of_ble_eq_true rfl) (Nat.le_of_ble_eq_true rfl) ?_
    rintro _ hB ⟨r, s1, rfl, Kc, A1, F_b1_counter, ⟨hr0, hr1⟩, hp1, hp2⟩
    have A2 := A2.keep Kc
    have F_b2_counter := F_b2_counter.keep Kc (ninS (Ne.symm ne_b1_b2) nin0)
    have Z0 := Nat.le_trans Z0 Kc.1
    refine w_istore ok (Ls' := #[.val (.long q), .second, .val (.int bb), .val (.int b), .val (.ref b1), .val (.ref b2), .val (.int r), .unset, .unset, .unset, .unset, .unset, .unset, .unset, .unset]) d0_37 rfl ?_
    refine w_iloadN ok d0_39 rfl ?_
    refine w_i2l ok d0_40 ?_
    refine w_lstore ok (Ls' := #[.val (.long q), .second, .val (.int bb), .val (.int b), .val (.ref b1), .val (.ref b2), .val (.int r), .val (.long (b.toInt64)), .second, .unset, .unset, .unset, .unset, .unset, .unset]) d0_41 rfl ?_
    refine w_lload ok d0_43 rfl ?_
    refine w_callSV ok (argsL := [(.long (b.toInt64))]) (rest := []) (hw _ (List.mem_of_getElem? (i := 37) rfl)) (hw _ (List.mem_of_getElem? (i := 38) rfl)) (hw _ (List.mem_of_getElem? (i := 39) rfl)) (hw _ (List.mem_of_getElem? (i := 40) rfl)) (by decide) (rmT l Z a0 hw n0 _ _ hb0) d0_45 (lenOf pd__J_J rfl) rfl rfl (Nat.le_of_ble_eq_true rfl) (Nat.le_of_ble_eq_true rfl) (k' := 2) (n' := 2) rfl rfl (Nat.le_of_ble_eq_true rfl) (Nat.le_of_ble_eq_true rfl) ?_
    rintro _ _ ⟨rfl, rfl⟩
    refine w_lstore ok (Ls' := #[.val (.long q), .second, .val (.int bb), .val (.int b), .val (.ref b1), .val (.ref b2), .val (.int r), .val (.long (b.toInt64)), .second, .val (.long (own_two b.toInt64)), .second, .unset, .unset, .unset, .unset]) d0_48 rfl ?_
    refine w_aload ok d0_50 rfl rfl ?_
    refine w_virtV ok (argsL := []) (rest := []) (hw _ (List.mem_of_getElem? (i := 43) rfl)) (hw _ (List.mem_of_getElem? (i := 23) rfl)) (hw _ (List.mem_of_getElem? (i := 25) rfl)) (hw _ (List.mem_of_getElem? (i := 24) rfl)) (hw _ (List.mem_of_getElem? (i := 3) rfl)) (hw _ (List.mem_of_getElem? (i := 26) rfl)) A2 (by decide) (rmN l Z a0 hw n0 b2 q hB Z0 gn_b2 A2 F_b2_counter) d0_52 (lenOf pd___J rfl) rfl rfl (Nat.le_of_ble_eq_true rfl) (Nat.le_of_ble_eq_true rfl) (k' := 2) (n' := 2) rfl rfl (Nat.le_of_ble_eq_true rfl) (Nat.le_of_ble_eq_true rfl) ?_
    rintro _ hn3 ⟨rfl, Kc, A2, F_b2_counter⟩
    have A1 := A1.keep Kc
    have F_b1_counter := F_b1_counter.keep Kc (ninS ne_b1_b2 nin0)
    have Z0 := Nat.le_trans Z0 Kc.1
    refine w_lstore ok (Ls' := #[.val (.long q), .second, .val (.int bb), .val (.int b), .val (.ref b1), .val (.ref b2), .val (.int r), .val (.long (b.toInt64)), .second, .val (.long (own_two b.toInt64)), .second, .val (.long (own_mix (q + (-7046029254386353131 : Int64)))), .second, .unset, .unset]) d0_55 rfl ?_
    refine w_lload ok d0_57 rfl ?_
    refine w_lload ok d0_59 rfl ?_
    refine w_callSV ok (argsL := [(.long (own_mix (q + (-7046029254386353131 : Int64)))), (.long (own_two b.toInt64))]) (rest := []) (hw _ (List.mem_of_getElem? (i := 44) rfl)) (hw _ (List.mem_of_getElem? (i := 45) rfl)) (hw _ (List.mem_of_getElem? (i := 39) rfl)) (hw _ (List.mem_of_getElem? (i := 46) rfl)) (by decide) (rmA l Z a0 hw n0 _ _ _) d0_61 (lenOf pd__JJ_Z rfl) rfl rfl (Nat.le_of_ble_eq_true rfl) (Nat.le_of_ble_eq_true rfl) (k' := 2) (n' := 2) rfl rfl (Nat.le_of_ble_eq_true rfl) (Nat.le_of_ble_eq_true rfl) ?_
    rintro _ _ ⟨rfl, rfl⟩
    refine w_if_eq ok d0_64 (fun f0 => ?_) (fun f0 => ?_)
    · refine w_aload ok d0_100 rfl rfl ?_
      refine w_virtV ok (argsL := []) (rest := []) (hw _ (List.mem_of_getElem? (i := 43) rfl)) (hw _ (List.mem_of_getElem? (i := 23) rfl)) (hw _ (List.mem_of_getElem? (i := 25) rfl)) (hw _ (List.mem_of_getElem? (i := 24) rfl)) (hw _ (List.mem_of_getElem? (i := 3) rfl)) (hw _ (List.mem_of_getElem? (i := 26) rfl)) A2 (by decide) (rmN l Z a0 hw n0 b2 (q + (-7046029254386353131 : Int64)) hn3 Z0 gn_b2 A2 F_b2_counter) d0_102 (lenOf pd___J rfl) rfl rfl (Nat.le_of_ble_eq_true rfl) (Nat.le_of_ble_eq_true rfl) (k' := 2) (n' := 2) rfl rfl (Nat.le_of_ble_eq_true rfl) (Nat.le_of_ble_eq_true rfl) ?_
      rintro _ hn6 ⟨rfl, Kc, A2, F_b2_counter⟩
      have A1 := A1.keep Kc
      have F_b1_counter := F_b1_counter.keep Kc (ninS ne_b1_b2 nin0)
      have Z0 := Nat.le_trans Z0 Kc.1
      refine w_lstore ok (Ls' := #[.val (.long q), .second, .val (.int bb), .val (.int b), .val (.ref b1), .val (.ref b2), .val (.int r), .val (.long (b.toInt64)), .second, .val (.long (own_two b.toInt64)), .second, .val (.long (own_mix (q + (-7046029254386353131 : Int64)))), .second, .val (.long (own_mix ((q + (-7046029254386353131 : Int64)) + (-7046029254386353131 : Int64)))), .second]) d0_105 rfl ?_
      refine w_lload ok d0_107 rfl ?_
      refine w_lload ok d0_109 rfl ?_
      refine w_callSV ok (argsL := [(.long (own_mix ((q + (-7046029254386353131 : Int64)) + (-7046029254386353131 : Int64)))), (.long (own_two b.toInt64))]) (rest := []) (hw _ (List.mem_of_getElem? (i := 44) rfl)) (hw _ (List.mem_of_getElem? (i := 45) rfl)) (hw _ (List.mem_of_getElem? (i := 39) rfl)) (hw _ (List.mem_of_getElem? (i := 46) rfl)) (by decide) (rmA l Z a0 hw n0 _ _ _) d0_111 (lenOf pd__JJ_Z rfl) rfl rfl (Nat.le_of_ble_eq_true rfl) (Nat.le_of_ble_eq_true rfl) (k' := 2) (n' := 2) rfl rfl (Nat.le_of_ble_eq_true rfl) (Nat.le_of_ble_eq_true rfl) ?_
      rintro _ _ ⟨rfl, rfl⟩
      refine w_if_eq ok d0_114 (fun f1 => ?_) (fun f1 => ?_)
      · refine w_iload ok d0_150 rfl ?_
        refine w_if_lt ok d0_152 (fun e0 => ?_) (fun e0 => ?_)
        · exact absurd e0 hr0
        · refine w_iload ok d0_155 rfl ?_
          refine w_iloadN ok d0_157 rfl ?_
          refine w_ic_ge ok d0_158 (fun e1 => ?_) (fun e1 => ?_)
          · exact absurd (by simpa using hr1) e1
          · refine w_iconst ok (z := 1) d0_161 rfl ?_
            refine w_goto ok d0_162 ?_
            refine w_ireturnN ok (by simp) d0_166 (Nat.le_of_ble_eq_true rfl) (Nat.le_of_ble_eq_true rfl) ?_
            exact ⟨_, rfl, rfl⟩
      · obtain ⟨hr, rfl⟩ := hp2 (own_accd_no hb hbs f0) (own_accd_yes hb hbs f1)
        refine w_iload ok d0_117 rfl ?_
        refine w_lload ok d0_119 rfl ?_
        refine w_lload ok d0_121 rfl ?_
        refine w_callSV ok (argsL := [(.long (own_mix ((q + (-7046029254386353131 : Int64)) + (-7046029254386353131 : Int64)))), (.long (b.toInt64))]) (rest := [(.int r)]) (hw _ (List.mem_of_getElem? (i := 47) rfl)) (hw _ (List.mem_of_getElem? (i := 48) rfl)) (hw _ (List.mem_of_getElem? (i := 39) rfl)) (hw _ (List.mem_of_getElem? (i := 49) rfl)) (by decide) (rmU l Z a0 hw n0 _ _ _ hb0) d0_123 (lenOf pd__JJ_J rfl) rfl rfl (Nat.le_of_ble_eq_true rfl) (Nat.le_of_ble_eq_true rfl) (k' := 2) (n' := 2) rfl rfl (Nat.le_of_ble_eq_true rfl) (Nat.le_of_ble_eq_true rfl) ?_
        rintro _ _ ⟨rfl, rfl⟩
        refine w_l2i ok d0_126 ?_
        refine w_ic_ne ok d0_127 (fun e => ?_) (fun e => ?_)
        · exact absurd (hr.trans (congrArg Int64.toInt32 (own_rem_eq hb hbs _))) e
        · refine w_aload ok d0_130 rfl rfl ?_
          refine w_virtV ok (argsL := []) (rest := []) (hw _ (List.mem_of_getElem? (i := 43) rfl)) (hw _ (List.mem_of_getElem? (i := 23) rfl)) (hw _ (List.mem_of_getElem? (i := 25) rfl)) (hw _ (List.mem_of_getElem? (i := 24) rfl)) (hw _ (List.mem_of_getElem? (i := 3) rfl)) (hw _ (List.mem_of_getElem? (i := 26) rfl)) A1 (by decide) (rmN l Z a0 hw n0 b1 ((q + (-7046029254386353131 : Int64)) + (-7046029254386353131 : Int64)) hn6 Z0 gn_b1 A1 F_b1_counter) d0_132 (lenOf pd___J rfl) rfl rfl (Nat.le_of_ble_eq_true rfl) (Nat.le_of_ble_eq_true rfl) (k' := 2) (n' := 2) rfl rfl (Nat.le_of_ble_eq_true rfl) (Nat.le_of_ble_eq_true rfl) ?_
          rintro _ hn7 ⟨rfl, Kc, A1, F_b1_counter⟩
          have A2 := A2.keep Kc
          have F_b2_counter := F_b2_counter.keep Kc (ninS (Ne.symm ne_b1_b2) nin0)
          have Z0 := Nat.le_trans Z0 Kc.1
          refine w_aload ok d0_135 rfl rfl ?_
          refine w_virtV ok (argsL := []) (rest := [(.long (own_mix (((q + (-7046029254386353131 : Int64)) + (-7046029254386353131 : Int64)) + (-7046029254386353131 : Int64))))]) (hw _ (List.mem_of_getElem? (i := 43) rfl)) (hw _ (List.mem_of_getElem? (i := 23) rfl)) (hw _ (List.mem_of_getElem? (i := 25) rfl)) (hw _ (List.mem_of_getElem? (i := 24) rfl)) (hw _ (List.mem_of_getElem? (i := 3) rfl)) (hw _ (List.mem_of_getElem? (i := 26) rfl)) A2 (by decide) (rmN l Z a0 hw n0 b2 ((q + (-7046029254386353131 : Int64)) + (-7046029254386353131 : Int64)) hn7 Z0 gn_b2 A2 F_b2_counter) d0_137 (lenOf pd___J rfl) rfl rfl (Nat.le_of_ble_eq_true rfl) (Nat.le_of_ble_eq_true rfl) (k' := 2) (n' := 2) rfl rfl (Nat.le_of_ble_eq_true rfl) (Nat.le_of_ble_eq_true rfl) ?_
          rintro _ hn8 ⟨rfl, Kc, A2, F_b2_counter⟩
          have A1 := A1.keep Kc
          have F_b1_counter := F_b1_counter.keep Kc (ninS ne_b1_b2 nin0)
          have Z0 := Nat.le_trans Z0 Kc.1
          refine w_lc_ne ok d0_140 d0_141 (fun e2 => ?_) (fun e2 => ?_)
          · exact absurd rfl e2
          · refine w_iconst ok (z := 1) d0_144 rfl ?_
            refine w_goto ok d0_145 ?_
            refine w_ireturnN ok (by simp) d0_149 (Nat.le_of_ble_eq_true rfl) (Nat.le_of_ble_eq_true rfl) ?_
            exact ⟨_, rfl, rfl⟩
    · obtain ⟨hr, rfl⟩ := hp1 (own_accd_yes hb hbs f0)
      refine w_iload ok d0_67 rfl ?_
      refine w_lload ok d0_69 rfl ?_
      refine w_lload ok d0_71 rfl ?_
      refine w_callSV ok (argsL := [(.long (own_mix (q + (-7046029254386353131 : Int64)))), (.long (b.toInt64))]) (rest := [(.int r)]) (hw _ (List.mem_of_getElem? (i := 47) rfl)) (hw _ (List.mem_of_getElem? (i := 48) rfl)) (hw _ (List.mem_of_getElem? (i := 39) rfl)) (hw _ (List.mem_of_getElem? (i := 49) rfl)) (by decide) (rmU l Z a0 hw n0 _ _ _ hb0) d0_73 (lenOf pd__JJ_J rfl) rfl rfl (Nat.le_of_ble_eq_true rfl) (Nat.le_of_ble_eq_true rfl) (k' := 2) (n' := 2) rfl rfl (Nat.le_of_ble_eq_true rfl) (Nat.le_of_ble_eq_true rfl) ?_
      rintro _ _ ⟨rfl, rfl⟩
      refine w_l2i ok d0_76 ?_
      refine w_ic_ne ok d0_77 (fun e => ?_) (fun e => ?_)
      · exact absurd (hr.trans (congrArg Int64.toInt32 (own_rem_eq hb hbs _))) e
      · refine w_aload ok d0_80 rfl rfl ?_
        refine w_virtV ok (argsL := []) (rest := []) (hw _ (List.mem_of_getElem? (i := 43) rfl)) (hw _ (List.mem_of_getElem? (i := 23) rfl)) (hw _ (List.mem_of_getElem? (i := 25) rfl)) (hw _ (List.mem_of_getElem? (i := 24) rfl)) (hw _ (List.mem_of_getElem? (i := 3) rfl)) (hw _ (List.mem_of_getElem? (i := 26) rfl)) A1 (by decide) (rmN l Z a0 hw n0 b1 (q + (-7046029254386353131 : Int64)) hn3 Z0 gn_b1 A1 F_b1_counter) d0_82 (lenOf pd___J rfl) rfl rfl (Nat.le_of_ble_eq_true rfl) (Nat.le_of_ble_eq_true rfl) (k' := 2) (n' := 2) rfl rfl (Nat.le_of_ble_eq_true rfl) (Nat.le_of_ble_eq_true rfl) ?_
        rintro _ hn4 ⟨rfl, Kc, A1, F_b1_counter⟩
        have A2 := A2.keep Kc
        have F_b2_counter := F_b2_counter.keep Kc (ninS (Ne.symm ne_b1_b2) nin0)
        have Z0 := Nat.le_trans Z0 Kc.1
        refine w_aload ok d0_85 rfl rfl ?_
        refine w_virtV ok (argsL := []) (rest := [(.long (own_mix ((q + (-7046029254386353131 : Int64)) + (-7046029254386353131 : Int64))))]) (hw _ (List.mem_of_getElem? (i := 43) rfl)) (hw _ (List.mem_of_getElem? (i := 23) rfl)) (hw _ (List.mem_of_getElem? (i := 25) rfl)) (hw _ (List.mem_of_getElem? (i := 24) rfl)) (hw _ (List.mem_of_getElem? (i := 3) rfl)) (hw _ (List.mem_of_getElem? (i := 26) rfl)) A2 (by decide) (rmN l Z a0 hw n0 b2 (q + (-7046029254386353131 : Int64)) hn4 Z0 gn_b2 A2 F_b2_counter) d0_87 (lenOf pd___J rfl) rfl rfl (Nat.le_of_ble_eq_true rfl) (Nat.le_of_ble_eq_true rfl) (k' := 2) (n' := 2) rfl rfl (Nat.le_of_ble_eq_true rfl) (Nat.le_of_ble_eq_true rfl) ?_
        rintro _ hn5 ⟨rfl, Kc, A2, F_b2_counter⟩
        have A1 := A1.keep Kc
        have F_b1_counter := F_b1_counter.keep Kc (ninS ne_b1_b2 nin0)
        have Z0 := Nat.le_trans Z0 Kc.1
        refine w_lc_ne ok d0_90 d0_91 (fun e2 => ?_) (fun e2 => ?_)
        · exact absurd rfl e2
        · refine w_iconst ok (z := 1) d0_94 rfl ?_
          refine w_goto ok d0_95 ?_
          refine w_ireturnN ok (by simp) d0_99 (Nat.le_of_ble_eq_true rfl) (Nat.le_of_ble_eq_true rfl) ?_
          exact ⟨_, rfl, rfl⟩
  refine w_if_ne ok d0_6 (fun e => ?_) (fun e => ?_)
  · exact J11 _ (own_bd1 e) (own_bd2 _)
  · refine w_iconst ok (z := 1) d0_9 rfl ?_
    refine w_istoreN ok (Ls' := #[.val (.long q), .second, .val (.int bb), .val (.int (1 : Int32)), .unset, .unset, .unset, .unset, .unset, .unset, .unset, .unset, .unset, .unset, .unset]) d0_10 rfl ?_
    exact J11 _ (by decide) (by decide)
set_option maxRecDepth 65536 in
set_option maxHeartbeats 4000000 in
theorem comes_1 {Post : Tables → Env → Array Value → State → Outcome → State → Prop} (hpost : ∀ tb e args s v u, (limb_1_1.after args s (.returned v) u = true ∧ limb_1_2.after args s (.returned v) u = true ∧ True) → FrameEnd s (.returned v) u (Jvm.fieldLocs frame_1_writes args s ++ Jvm.arrayLocs frame_1_arrays args s ++ Jvm.staticLocs frame_1_statics s) 16 128 → Post tb e args s (.returned v) u) :
    ArmFor flags0 classFile x code maxLocals ret World_1 tables_1 room_1 Calls_1 rest_1 Pre_1 Post := by
  intro l hfl _ _ p e ha hc hk s m args below hf hA hF happ hP
  obtain ⟨hcalls, hrest, hpre⟩ := hP
  obtain ⟨-, -, -, hnamed, -, -, -, hat⟩ := (Spec.applies_iff hf).mp happ
  obtain ⟨hg, hn⟩ := and_e (Cond.before_iff.mp (show (Jvm.Cond.and given_1 narrow_1).before args s = true from hpre))
  obtain ⟨hct, hg0⟩ := and_e hg
  obtain ⟨hk0, hg1⟩ := and_e hg0
  have hk1 := hg1
  obtain ⟨w0, w1, rfl⟩ : ∃ w0 w1 : Value, args = #[w0, w1] := by
    have hs : args.size = 2 := by simpa [Cond.value, given_1] using hct
    obtain ⟨L⟩ := args
    match L, hs with
    | [w0, w1], _ => exact ⟨w0, w1, rfl⟩
  have hw := fun d (hd : d ∈ tables_1) => atoms_spec (ws := Jvm.Cond.code x code maxLocals ret :: tables_1) hat d (List.mem_cons_of_mem _ hd)
  obtain ⟨i0, ei0⟩ := isL_v hk0
  obtain rfl : w0 = (.long i0) := Option.some.inj ei0
  obtain ⟨i1, ei1⟩ := is_v hk1
  obtain rfl : w1 = (.int i1) := Option.some.inj ei1
  obtain ⟨n, o, h1, h2, h3, _, L, rfl, ⟨⟨_, rfl, rfl⟩, N⟩, hq⟩ := rm0 l s _ hw s.heap.size i0 i1 s.heap (Nat.le_refl _) p e ha hc hk s m _ below hf ((Spec.applies_iff_loose hf).mp happ).1 ⟨rfl, State.Warmed39.refl s, rfl⟩ trivial
  refine ⟨n, _, h1, h2, h3, hpost _ _ _ _ _ _ ⟨Cond.after_iff.mpr rfl, Cond.after_iff.mpr (eq_i res_at (Term.int_eval (1)) rfl), trivial⟩ ⟨hq.1, hq.2.1, (hq.2.2.sift fun y hy => Or.inr (N y hy)).mono (by decide) (by decide)⟩⟩
theorem main_1_1 : Claimed_1_1 := comes_1 fun _ _ _ _ _ _ h hF => ⟨h.1, hF⟩
theorem main_1_2 : Claimed_1_2 := comes_1 fun _ _ _ _ _ _ h hF => ⟨h.2.1, hF⟩
end Jvm.Pilot.@@N@@
namespace Jvm.Pilot.@@N@@
open Jvm Jvm.ClassFile Sem Op Lib Jvm.Free Jvm.Stand Jvm.Pilot.@@N@@.Jvm.D
/-! MADE BY PROGRAM (witnessworld.py) out of the Statement's table words and the real class files: 14 classes; the members and pool entries that the words name. The judged class is class 1, her method 4. -/
namespace start1
open Jvm.ClassFile
def u (s : String) : CpInfo := .utf8 (stringToUtf16 s)
/-- a pool by its gaps: so many unusable entries, then the entry; so many at the end -/
def gap : Nat → List CpInfo → List CpInfo
  | 0, r => r
  | n + 1, r => .unusable :: gap n r
def poolList (es : List (Nat × CpInfo)) (last : Nat) : List CpInfo := es.foldr (fun e r => gap e.1 (e.2 :: r)) (gap last [])
def pool (es : List (Nat × CpInfo)) (last : Nat) : Array CpInfo := ⟨poolList es last⟩
def fileOf (pool : Array CpInfo) (this : Nat) (attrs : Array Attribute := #[]) (ms : Array MethodInfo := #[]) (fl : Nat := 33) (sup : Nat := 0) (ifs : Array Nat := #[]) (fds : Array FieldInfo := #[]) : ClassFile where
  minorVersion := 0
  majorVersion := 65
  constantPool := pool
  accessFlags := fl
  thisClass := this
  superClass := sup
  interfaces := ifs
  fields := fds
  methods := ms
  attributes := attrs
def plain (name : String) (sup : Option ClassId) : Class where
  name := name
  kind := .ordinary
  loader := none
  accessFlags := 33
  super := sup
  interfaces := #[]
  cf := none
  fields := #[]
  methods := #[]
  instanceTypes := #[]
  staticTypes := #[]
  resolved := #[]
  callSites := []
  init := .initialized
  statics := none
  mirror := none

def pool0 : Array CpInfo := pool [(5, u "<init>"), (0, u "()V"), (1, .class_ 10), (1, u "java/lang/Object")] 113

def k0c0 : Code := { maxStack := 0, maxLocals := 1, code := object_method_1_code, exceptionTable := #[], attributes := #[] }
def k0m0 : Method := { name := "<init>", desc := "()V", sig := { parameters := [], returnType := none }, accessFlags := 1, code := some k0c0 }
/-- java/lang/Object -/
def k0 : Class := { plain "java/lang/Object" none with
  accessFlags := 33
  interfaces := #[]
  cf := some (fileOf pool0 8 #[] #[{ accessFlags := 1, nameIndex := 5, descriptorIndex := 6, attributes := #[] }] 33 0 #[] #[])
  fields := #[]
  methods := #[k0m0]
  instanceTypes := #[]
  staticTypes := #[]
  resolved := Array.replicate 124 none
  statics := none }

def pool1 : Array CpInfo := pool [(2, .class_ 4), (1, u "java/lang/Object"), (0, u "<init>"), (0, u "()V"), (2, .long 9223372036854775807), (1, .long 2), (1, .integer 2147483647), (0, .class_ 15), (0, u "com/example/cartolog/cartolog/engine/SplitMix64"), (0, .methodref 14 17), (0, .nameAndType 5 18), (0, u "(J)V"), (0, .methodref 14 20), (0, .nameAndType 21 22), (0, u "below"), (0, u "(I)I"), (0, .methodref 24 25), (0, .class_ 26), (0, .nameAndType 27 28), (0, u "com/example/cartolog/cartolog/engine/SplitMix64BelowPinLaw"), (0, u "twoTo64Mod"), (0, u "(J)J"), (0, .methodref 14 30), (0, .nameAndType 31 32), (0, u "next"), (0, u "()J"), (0, .methodref 24 34), (0, .nameAndType 35 36), (0, u "accepted"), (0, u "(JJ)Z"), (0, .methodref 24 38), (0, .nameAndType 39 40), (0, u "urem"), (0, u "(JJ)J"), (3, u "law"), (0, u "(JI)Z")] 2

def k1m0 : Method := { name := "<init>", desc := "()V", sig := { parameters := [], returnType := none }, accessFlags := 1, code := none }
def k1c1 : Code := { maxStack := 6, maxLocals := 8, code := method_2_code, exceptionTable := #[], attributes := #[] }
def k1m1 : Method := { name := "urem", desc := "(JJ)J", sig := { parameters := [.long, .long], returnType := some .long }, accessFlags := 10, code := some k1c1 }
def k1c2 : Code := { maxStack := 4, maxLocals := 4, code := method_3_code, exceptionTable := #[], attributes := #[] }
def k1m2 : Method := { name := "twoTo64Mod", desc := "(J)J", sig := { parameters := [.long], returnType := some .long }, accessFlags := 10, code := some k1c2 }
def k1c3 : Code := { maxStack := 4, maxLocals := 4, code := method_4_code, exceptionTable := #[], attributes := #[] }
def k1m3 : Method := { name := "accepted", desc := "(JJ)Z", sig := { parameters := [.long, .long], returnType := some .boolean }, accessFlags := 10, code := some k1c3 }
def k1c4 : Code := { maxStack := 5, maxLocals := 15, code := code, exceptionTable := #[], attributes := #[] }
def k1m4 : Method := { name := "law", desc := "(JI)Z", sig := { parameters := [.long, .int], returnType := some .boolean }, accessFlags := 9, code := some k1c4 }
/-- com/example/cartolog/cartolog/engine/SplitMix64BelowPinLaw -/
def k1 : Class := { plain "com/example/cartolog/cartolog/engine/SplitMix64BelowPinLaw" (some 0) with
  accessFlags := 49
  interfaces := #[]
  cf := some (fileOf pool1 24 #[] #[{ accessFlags := 1, nameIndex := 5, descriptorIndex := 6, attributes := #[] }, { accessFlags := 10, nameIndex := 39, descriptorIndex := 40, attributes := #[] }, { accessFlags := 10, nameIndex := 27, descriptorIndex := 28, attributes := #[] }, { accessFlags := 10, nameIndex := 35, descriptorIndex := 36, attributes := #[] }, { accessFlags := 9, nameIndex := 44, descriptorIndex := 45, attributes := #[] }] 49 2 #[] #[])
  fields := #[]
  methods := #[k1m0, k1m1, k1m2, k1m3, k1m4]
  instanceTypes := #[]
  staticTypes := #[]
  resolved := Array.replicate 48 none
  statics := none }

def pool2 : Array CpInfo := pool [(1, .methodref 2 3), (0, .class_ 4), (0, .nameAndType 5 6), (0, u "java/lang/Object"), (0, u "<init>"), (0, u "()V"), (0, .fieldref 8 9), (0, .class_ 10), (0, .nameAndType 11 12), (0, u "com/example/cartolog/cartolog/engine/SplitMix64"), (0, u "counter"), (0, u "J"), (0, .long 11400714819323198485), (1, .long 13787848793156543929), (1, .long 10723151780598845931), (1, .methodref 20 21), (0, .class_ 22), (0, .nameAndType 23 24), (0, u "java/lang/Long"), (0, u "remainderUnsigned"), (0, u "(JJ)J"), (0, .methodref 8 26), (0, .nameAndType 27 28), (0, u "next"), (0, u "()J"), (0, .methodref 20 30), (0, .nameAndType 31 32), (0, u "compareUnsigned"), (0, u "(JJ)I"), (0, u "STEP"), (1, u "(J)V"), (2, u "below"), (0, u "(I)I")] 3

def k2c0 : Code := { maxStack := 3, maxLocals := 3, code := prog_10_method_1_code, exceptionTable := #[], attributes := #[] }
def k2m0 : Method := { name := "<init>", desc := "(J)V", sig := { parameters := [.long], returnType := none }, accessFlags := 0, code := some k2c0 }
def k2c1 : Code := { maxStack := 5, maxLocals := 3, code := prog_10_method_2_code, exceptionTable := #[], attributes := #[] }
def k2m1 : Method := { name := "next", desc := "()J", sig := { parameters := [], returnType := some .long }, accessFlags := 0, code := some k2c1 }
def k2c2 : Code := { maxStack := 4, maxLocals := 6, code := prog_10_method_3_code, exceptionTable := #[], attributes := #[] }
def k2m2 : Method := { name := "below", desc := "(I)I", sig := { parameters := [.int], returnType := some .int }, accessFlags := 0, code := some k2c2 }
/-- com/example/cartolog/cartolog/engine/SplitMix64 -/
def k2 : Class := { plain "com/example/cartolog/cartolog/engine/SplitMix64" (some 0) with
  accessFlags := 48
  interfaces := #[]
  cf := some (fileOf pool2 8 #[] #[{ accessFlags := 0, nameIndex := 5, descriptorIndex := 35, attributes := #[] }, { accessFlags := 0, nameIndex := 27, descriptorIndex := 28, attributes := #[] }, { accessFlags := 0, nameIndex := 38, descriptorIndex := 39, attributes := #[] }] 48 2 #[] #[{ accessFlags := 26, nameIndex := 33, descriptorIndex := 12, attributes := #[] }, { accessFlags := 2, nameIndex := 11, descriptorIndex := 12, attributes := #[] }])
  fields := #[{ name := "STEP", type := .long, accessFlags := 26, slot := 0, constantValue := 0 }, { name := "counter", type := .long, accessFlags := 2, slot := 0, constantValue := 0 }]
  methods := #[k2m0, k2m1, k2m2]
  instanceTypes := #[.long]
  staticTypes := #[.long]
  resolved := Array.replicate 43 none
  statics := none }

def pool3 : Array CpInfo := pool [(1, .class_ 2), (0, u "java/io/Serializable"), (0, .class_ 4), (0, u "java/lang/Object")] 2

/-- java/io/Serializable -/
def k3 : Class := { plain "java/io/Serializable" (some 0) with
  accessFlags := 1537
  interfaces := #[]
  cf := some (fileOf pool3 1 #[] #[] 1537 3 #[] #[])
  fields := #[]
  methods := #[]
  instanceTypes := #[]
  staticTypes := #[]
  resolved := Array.replicate 7 none
  statics := none }

def pool4 : Array CpInfo := pool [(2, .class_ 4), (1, u "java/lang/Object"), (0, u "<init>"), (0, u "()V"), (1, .class_ 10), (1, u "java/lang/Number"), (2, .class_ 14), (0, u "java/io/Serializable"), (0, u "serialVersionUID"), (0, u "J")] 20

def k4m0 : Method := { name := "<init>", desc := "()V", sig := { parameters := [], returnType := none }, accessFlags := 1, code := none }
/-- java/lang/Number -/
def k4 : Class := { plain "java/lang/Number" (some 0) with
  accessFlags := 1057
  interfaces := #[3]
  cf := some (fileOf pool4 8 #[] #[{ accessFlags := 1, nameIndex := 5, descriptorIndex := 6, attributes := #[] }] 1057 2 #[13] #[{ accessFlags := 26, nameIndex := 15, descriptorIndex := 16, attributes := #[] }])
  fields := #[{ name := "serialVersionUID", type := .long, accessFlags := 26, slot := 0, constantValue := 0 }]
  methods := #[k4m0]
  instanceTypes := #[]
  staticTypes := #[.long]
  resolved := Array.replicate 37 none
  statics := none }

def pool5 : Array CpInfo := pool [(1, .class_ 2), (0, u "java/lang/Comparable"), (0, .class_ 4), (0, u "java/lang/Object")] 7

/-- java/lang/Comparable -/
def k5 : Class := { plain "java/lang/Comparable" (some 0) with
  accessFlags := 1537
  interfaces := #[]
  cf := some (fileOf pool5 1 #[] #[] 1537 3 #[] #[])
  fields := #[]
  methods := #[]
  instanceTypes := #[]
  staticTypes := #[]
  resolved := Array.replicate 12 none
  statics := none }

def pool6 : Array CpInfo := pool [(1, .class_ 2), (0, u "java/lang/constant/Constable"), (0, .class_ 4), (0, u "java/lang/Object")] 6

/-- java/lang/constant/Constable -/
def k6 : Class := { plain "java/lang/constant/Constable" (some 0) with
  accessFlags := 1537
  interfaces := #[]
  cf := some (fileOf pool6 1 #[] #[] 1537 3 #[] #[])
  fields := #[]
  methods := #[]
  instanceTypes := #[]
  staticTypes := #[]
  resolved := Array.replicate 11 none
  statics := none }

def pool7 : Array CpInfo := pool [(1, .class_ 2), (0, u "java/lang/constant/ConstantDesc"), (0, .class_ 4), (0, u "java/lang/Object")] 32

/-- java/lang/constant/ConstantDesc -/
def k7 : Class := { plain "java/lang/constant/ConstantDesc" (some 0) with
  accessFlags := 1537
  interfaces := #[]
  cf := some (fileOf pool7 1 #[] #[] 1537 3 #[] #[])
  fields := #[]
  methods := #[]
  instanceTypes := #[]
  staticTypes := #[]
  resolved := Array.replicate 37 none
  statics := none }

def pool8 : Array CpInfo := pool [(1, .class_ 2), (0, u "java/lang/Long"), (165, .long 9223372036854775808), (66, .class_ 237), (1, u "java/lang/Long$LongCache"), (33, .class_ 272), (0, u "java/lang/Number"), (2, u "value"), (0, u "J"), (25, .methodref 1 303), (0, .nameAndType 304 305), (0, u "compare"), (0, u "(JJ)I"), (0, .long 18446744073709551615), (26, u "(JJ)J"), (27, u "TYPE"), (0, u "Ljava/lang/Class;"), (0, .class_ 364), (0, u "java/lang/Comparable"), (0, .class_ 366), (0, u "java/lang/constant/Constable"), (0, .class_ 368), (0, u "java/lang/constant/ConstantDesc"), (0, u "MIN_VALUE"), (1, u "MAX_VALUE"), (4, u "SIZE"), (0, u "I"), (1, u "BYTES"), (1, u "serialVersionUID"), (87, u "compareUnsigned"), (3, u "remainderUnsigned")] 50

def k8c0 : Code := { maxStack := 4, maxLocals := 4, code := jdk_35_method_42_code, exceptionTable := #[], attributes := #[] }
def k8m0 : Method := { name := "compare", desc := "(JJ)I", sig := { parameters := [.long, .long], returnType := some .int }, accessFlags := 9, code := some k8c0 }
def k8c1 : Code := { maxStack := 6, maxLocals := 4, code := jdk_35_method_43_code, exceptionTable := #[], attributes := #[] }
def k8m1 : Method := { name := "compareUnsigned", desc := "(JJ)I", sig := { parameters := [.long, .long], returnType := some .int }, accessFlags := 9, code := some k8c1 }
def k8c2 : Code := { maxStack := 8, maxLocals := 8, code := jdk_35_method_45_code, exceptionTable := #[], attributes := #[] }
def k8m2 : Method := { name := "remainderUnsigned", desc := "(JJ)J", sig := { parameters := [.long, .long], returnType := some .long }, accessFlags := 9, code := some k8c2 }
/-- java/lang/Long -/
def k8 : Class := { plain "java/lang/Long" (some 4) with
  accessFlags := 49
  interfaces := #[5, 6, 7]
  cf := some (fileOf pool8 1 #[.nestMembers #[235]] #[{ accessFlags := 9, nameIndex := 304, descriptorIndex := 305, attributes := #[] }, { accessFlags := 9, nameIndex := 469, descriptorIndex := 305, attributes := #[] }, { accessFlags := 9, nameIndex := 473, descriptorIndex := 333, attributes := #[] }] 49 271 #[363, 365, 367] #[{ accessFlags := 25, nameIndex := 369, descriptorIndex := 276, attributes := #[] }, { accessFlags := 25, nameIndex := 371, descriptorIndex := 276, attributes := #[] }, { accessFlags := 25, nameIndex := 361, descriptorIndex := 362, attributes := #[] }, { accessFlags := 18, nameIndex := 275, descriptorIndex := 276, attributes := #[] }, { accessFlags := 25, nameIndex := 376, descriptorIndex := 377, attributes := #[] }, { accessFlags := 25, nameIndex := 379, descriptorIndex := 377, attributes := #[] }, { accessFlags := 26, nameIndex := 381, descriptorIndex := 276, attributes := #[] }])
  fields := #[{ name := "MIN_VALUE", type := .long, accessFlags := 25, slot := 0, constantValue := 0 }, { name := "MAX_VALUE", type := .long, accessFlags := 25, slot := 1, constantValue := 0 }, { name := "TYPE", type := (.object "java/lang/Class"), accessFlags := 25, slot := 2, constantValue := 0 }, { name := "value", type := .long, accessFlags := 18, slot := 0, constantValue := 0 }, { name := "SIZE", type := .int, accessFlags := 25, slot := 3, constantValue := 0 }, { name := "BYTES", type := .int, accessFlags := 25, slot := 4, constantValue := 0 }, { name := "serialVersionUID", type := .long, accessFlags := 26, slot := 5, constantValue := 0 }]
  methods := #[k8m0, k8m1, k8m2]
  instanceTypes := #[.long]
  staticTypes := #[.long, .long, (.object "java/lang/Class"), .int, .int, .long]
  resolved := Array.replicate 524 none
  statics := none }

def pool9 : Array CpInfo := pool [(1, u "java/lang/Cloneable"), (0, .class_ 1), (0, u "java/lang/Object"), (0, .class_ 3)] 3

/-- java/lang/Cloneable -/
def k9 : Class := { plain "java/lang/Cloneable" (some 0) with
  accessFlags := 1537
  interfaces := #[]
  cf := some (fileOf pool9 2 #[] #[] 1537 4 #[] #[])
  fields := #[]
  methods := #[]
  instanceTypes := #[]
  staticTypes := #[]
  resolved := Array.replicate 8 none
  statics := none }

/-- the primitive byte -/
def k10 : Class := { plain "byte" none with kind := .primitive 'B', accessFlags := 0x411 }
/-- [B -/
def k11 : Class := { plain "[B" (some 0) with kind := .array 10 .byte, interfaces := #[9, 3], accessFlags := 1041 }

/-- the primitive int -/
def k12 : Class := { plain "int" none with kind := .primitive 'I', accessFlags := 0x411 }
/-- [I -/
def k13 : Class := { plain "[I" (some 0) with kind := .array 12 .int, interfaces := #[9, 3], accessFlags := 1041 }

def heap : Heap := #[]
def classes : Array Class := #[k0, k1, k2, k3, k4, k5, k6, k7, k8, k9, k10, k11, k12, k13]
def interned : List (Array UInt16 × Addr) := []
def slotsUsed : Nat := 0
def theMethod : MethodId := ⟨1, 4⟩
def args0 : Array Value := #[.long 2, .int 100]
def aboutOver (below : List Frame) : State where
  vm := { classes := classes, interned := interned.toArray }
  heap := heap
  slotsUsed := slotsUsed
  threads := #[{ frames := .invoking theMethod args0 :: below }]
def below0 : List Frame := [.native { method := ⟨0, 0⟩, args := #[] }]
def about1 : State := aboutOver below0
def p0 : Program := .bare "" "" ""
def e0 : Env := launch0.env 0 0 0
theorem w_frames : about1.frames = Frame.invoking theMethod args0 :: below0 := rfl
set_option maxRecDepth 65536 in
theorem w_args : argsFit about1.vm theMethod args0 = true := by decide +kernel
set_option maxRecDepth 65536 in
theorem w_heap : heapFits about1 = true := by decide +kernel
set_option maxRecDepth 65536 in
theorem w_runnable : about1.curStatus? = some .runnable := by decide +kernel
set_option maxRecDepth 65536 in
theorem w_alone : about1.alone = true := by decide +kernel
set_option maxRecDepth 65536 in
theorem w_named : about1.methodNamed? x = some theMethod := by decide +kernel
set_option maxRecDepth 65536 in
theorem w_hears : about1.hears theMethod below0 = true := by decide +kernel
set_option maxRecDepth 65536 in
theorem w_ripe : about1.ripe theMethod args0 below0 = true := by decide +kernel
theorem w_running : about1.status = .running := rfl
set_option maxRecDepth 65536 in
theorem w_room : about1.hasRoom e0.platform room_1 = true :=
  launch0.hasRoom_least _ room_1 (by decide +kernel) (by decide +kernel) (by decide +kernel) (by decide +kernel) (by decide +kernel) (by decide +kernel)
theorem allAtoms_all (ts : List Jvm.Cond) (a : Array Jvm.Value) (st : Jvm.State) : (allAtoms ts).before a st = ts.all (fun c => c.before a st) := by
  induction ts with
  | nil => rfl
  | cons c t ih =>
    show (Jvm.Cond.and c (allAtoms t)).before a st = _
    rw [Jvm.Cond.before_and, ih, List.all_cons]
def words1 : List Jvm.Cond := Jvm.Cond.code x code maxLocals ret :: tables_1
/-- a 'code' word, met by the world's own term for the bytes: nothing is compared byte by byte -/
theorem code_word {y : MethodName} {bytes : ByteArray} {mx : Nat} {rt : Option FieldType} {a : Array Value} {s : State} {m : MethodId} {meth : Method} {c : Code} (h1 : s.methodNamed? y = some m) (h2 : s.vm.method? m = some meth) (h3 : meth.code = some c) (h4 : c.code = bytes)
    (h5 : (c.maxLocals == mx && c.exceptionTable.isEmpty && decide (c.maxStack ≤ mostOperands) && decide (meth.sig.returnType = rt) && !meth.locks && decide (parseMethodDescriptor y.desc = some meth.sig)) = true) : (Jvm.Cond.code y bytes mx rt).before a s = true := by
  simp only [Bool.and_eq_true, beq_iff_eq, Bool.not_eq_true', decide_eq_true_eq] at h5
  obtain ⟨⟨⟨⟨⟨g1, g2⟩, g3⟩, g4⟩, g5⟩, g6⟩ := h5
  simp [Cond.before, Cond.holds, Cond.value, h1, h2, h3, h4, g1, g2, g3, g4, g5, g6]
def isCode : Jvm.Cond → Bool
  | .code _ _ _ _ => true
  | _ => false
theorem all_split {L : List Jvm.Cond} {P : Jvm.Cond → Bool} (h1 : L.all (fun c => isCode c || P c) = true) (h2 : ∀ c ∈ L.filter isCode, P c = true) : L.all P = true := by
  refine List.all_eq_true.mpr fun c hc => ?_
  have h := List.all_eq_true.mp h1 c hc
  rcases Bool.eq_false_or_eq_true (isCode c) with hi | hi
  · exact h2 c (List.mem_filter.mpr ⟨hc, hi⟩)
  · simpa [hi] using h
set_option maxRecDepth 65536 in
theorem w_c0 : (Jvm.Cond.code x code maxLocals ret).before args0 about1 = true := code_word (m := ⟨1, 4⟩) (meth := k1m4) (c := k1c4) (by decide +kernel) rfl rfl rfl (by decide +kernel)
set_option maxRecDepth 65536 in
theorem w_c1 : (Jvm.Cond.code ({ cls := "com/example/cartolog/cartolog/engine/SplitMix64", name := "<init>", desc := "(J)V" } : Jvm.MethodName) prog_10_method_1_code (3 : Nat) (Option.none : Option Jvm.ClassFile.FieldType)).before args0 about1 = true := code_word (m := ⟨2, 0⟩) (meth := k2m0) (c := k2c0) (by decide +kernel) rfl rfl rfl (by decide +kernel)
set_option maxRecDepth 65536 in
theorem w_c2 : (Jvm.Cond.code ({ cls := "java/lang/Object", name := "<init>", desc := "()V" } : Jvm.MethodName) object_method_1_code (1 : Nat) (Option.none : Option Jvm.ClassFile.FieldType)).before args0 about1 = true := code_word (m := ⟨0, 0⟩) (meth := k0m0) (c := k0c0) (by decide +kernel) rfl rfl rfl (by decide +kernel)
set_option maxRecDepth 65536 in
theorem w_c3 : (Jvm.Cond.code ({ cls := "com/example/cartolog/cartolog/engine/SplitMix64", name := "below", desc := "(I)I" } : Jvm.MethodName) prog_10_method_3_code (6 : Nat) (Option.some Jvm.ClassFile.FieldType.int)).before args0 about1 = true := code_word (m := ⟨2, 2⟩) (meth := k2m2) (c := k2c2) (by decide +kernel) rfl rfl rfl (by decide +kernel)
set_option maxRecDepth 65536 in
theorem w_c4 : (Jvm.Cond.code ({ cls := "java/lang/Long", name := "remainderUnsigned", desc := "(JJ)J" } : Jvm.MethodName) jdk_35_method_45_code (8 : Nat) (Option.some Jvm.ClassFile.FieldType.long)).before args0 about1 = true := code_word (m := ⟨8, 2⟩) (meth := k8m2) (c := k8c2) (by decide +kernel) rfl rfl rfl (by decide +kernel)
set_option maxRecDepth 65536 in
theorem w_c5 : (Jvm.Cond.code ({ cls := "com/example/cartolog/cartolog/engine/SplitMix64", name := "next", desc := "()J" } : Jvm.MethodName) prog_10_method_2_code (3 : Nat) (Option.some Jvm.ClassFile.FieldType.long)).before args0 about1 = true := code_word (m := ⟨2, 1⟩) (meth := k2m1) (c := k2c1) (by decide +kernel) rfl rfl rfl (by decide +kernel)
set_option maxRecDepth 65536 in
theorem w_c6 : (Jvm.Cond.code ({ cls := "java/lang/Long", name := "compareUnsigned", desc := "(JJ)I" } : Jvm.MethodName) jdk_35_method_43_code (4 : Nat) (Option.some Jvm.ClassFile.FieldType.int)).before args0 about1 = true := code_word (m := ⟨8, 1⟩) (meth := k8m1) (c := k8c1) (by decide +kernel) rfl rfl rfl (by decide +kernel)
set_option maxRecDepth 65536 in
theorem w_c7 : (Jvm.Cond.code ({ cls := "java/lang/Long", name := "compare", desc := "(JJ)I" } : Jvm.MethodName) jdk_35_method_42_code (4 : Nat) (Option.some Jvm.ClassFile.FieldType.int)).before args0 about1 = true := code_word (m := ⟨8, 0⟩) (meth := k8m0) (c := k8c0) (by decide +kernel) rfl rfl rfl (by decide +kernel)
set_option maxRecDepth 65536 in
theorem w_c8 : (Jvm.Cond.code ({ cls := "com/example/cartolog/cartolog/engine/SplitMix64BelowPinLaw", name := "twoTo64Mod", desc := "(J)J" } : Jvm.MethodName) method_3_code (4 : Nat) (Option.some Jvm.ClassFile.FieldType.long)).before args0 about1 = true := code_word (m := ⟨1, 2⟩) (meth := k1m2) (c := k1c2) (by decide +kernel) rfl rfl rfl (by decide +kernel)
set_option maxRecDepth 65536 in
theorem w_c9 : (Jvm.Cond.code ({ cls := "com/example/cartolog/cartolog/engine/SplitMix64BelowPinLaw", name := "accepted", desc := "(JJ)Z" } : Jvm.MethodName) method_4_code (4 : Nat) (Option.some Jvm.ClassFile.FieldType.boolean)).before args0 about1 = true := code_word (m := ⟨1, 3⟩) (meth := k1m3) (c := k1c3) (by decide +kernel) rfl rfl rfl (by decide +kernel)
set_option maxRecDepth 65536 in
theorem w_c10 : (Jvm.Cond.code ({ cls := "com/example/cartolog/cartolog/engine/SplitMix64BelowPinLaw", name := "urem", desc := "(JJ)J" } : Jvm.MethodName) method_2_code (8 : Nat) (Option.some Jvm.ClassFile.FieldType.long)).before args0 about1 = true := code_word (m := ⟨1, 1⟩) (meth := k1m1) (c := k1c1) (by decide +kernel) rfl rfl rfl (by decide +kernel)
def codes1 : List Jvm.Cond := [Jvm.Cond.code x code maxLocals ret, Jvm.Cond.code ({ cls := "com/example/cartolog/cartolog/engine/SplitMix64", name := "<init>", desc := "(J)V" } : Jvm.MethodName) prog_10_method_1_code (3 : Nat) (Option.none : Option Jvm.ClassFile.FieldType), Jvm.Cond.code ({ cls := "java/lang/Object", name := "<init>", desc := "()V" } : Jvm.MethodName) object_method_1_code (1 : Nat) (Option.none : Option Jvm.ClassFile.FieldType), Jvm.Cond.code ({ cls := "com/example/cartolog/cartolog/engine/SplitMix64", name := "below", desc := "(I)I" } : Jvm.MethodName) prog_10_method_3_code (6 : Nat) (Option.some Jvm.ClassFile.FieldType.int), Jvm.Cond.code ({ cls := "java/lang/Long", name := "remainderUnsigned", desc := "(JJ)J" } : Jvm.MethodName) jdk_35_method_45_code (8 : Nat) (Option.some Jvm.ClassFile.FieldType.long), Jvm.Cond.code ({ cls := "com/example/cartolog/cartolog/engine/SplitMix64", name := "next", desc := "()J" } : Jvm.MethodName) prog_10_method_2_code (3 : Nat) (Option.some Jvm.ClassFile.FieldType.long), Jvm.Cond.code ({ cls := "java/lang/Long", name := "compareUnsigned", desc := "(JJ)I" } : Jvm.MethodName) jdk_35_method_43_code (4 : Nat) (Option.some Jvm.ClassFile.FieldType.int), Jvm.Cond.code ({ cls := "java/lang/Long", name := "compare", desc := "(JJ)I" } : Jvm.MethodName) jdk_35_method_42_code (4 : Nat) (Option.some Jvm.ClassFile.FieldType.int), Jvm.Cond.code ({ cls := "com/example/cartolog/cartolog/engine/SplitMix64BelowPinLaw", name := "twoTo64Mod", desc := "(J)J" } : Jvm.MethodName) method_3_code (4 : Nat) (Option.some Jvm.ClassFile.FieldType.long), Jvm.Cond.code ({ cls := "com/example/cartolog/cartolog/engine/SplitMix64BelowPinLaw", name := "accepted", desc := "(JJ)Z" } : Jvm.MethodName) method_4_code (4 : Nat) (Option.some Jvm.ClassFile.FieldType.boolean), Jvm.Cond.code ({ cls := "com/example/cartolog/cartolog/engine/SplitMix64BelowPinLaw", name := "urem", desc := "(JJ)J" } : Jvm.MethodName) method_2_code (8 : Nat) (Option.some Jvm.ClassFile.FieldType.long)]
set_option maxRecDepth 65536 in
theorem codes_eq : words1.filter isCode = codes1 := rfl
theorem w_codes : ∀ c ∈ words1.filter isCode, c.before args0 about1 = true := by
  rw [codes_eq]
  intro c hc
  simp only [codes1, List.mem_cons, List.not_mem_nil, or_false] at hc
  rcases hc with rfl | rfl | rfl | rfl | rfl | rfl | rfl | rfl | rfl | rfl | rfl
  · exact w_c0
  · exact w_c1
  · exact w_c2
  · exact w_c3
  · exact w_c4
  · exact w_c5
  · exact w_c6
  · exact w_c7
  · exact w_c8
  · exact w_c9
  · exact w_c10
set_option maxRecDepth 65536 in
theorem w_t1 : (words1.take 24).all (fun c => isCode c || c.before args0 about1) = true := by decide +kernel
set_option maxRecDepth 65536 in
theorem w_t2 : ((words1.drop 24).take 24).all (fun c => isCode c || c.before args0 about1) = true := by decide +kernel
set_option maxRecDepth 65536 in
theorem w_t3 : ((words1.drop 24).drop 24).all (fun c => isCode c || c.before args0 about1) = true := by decide +kernel
theorem w_tables : (allAtoms (Jvm.Cond.code x code maxLocals ret :: tables_1)).before args0 about1 = true := by
  rw [allAtoms_all]
  show words1.all (fun c => c.before args0 about1) = true
  refine all_split ?_ w_codes
  rw [← List.take_append_drop 24 words1, List.all_append, w_t1, ← List.take_append_drop 24 (words1.drop 24), List.all_append, w_t2, w_t3]
  rfl
set_option maxRecDepth 65536 in
theorem w_case : (Jvm.Cond.and given_1 narrow_1).before args0 about1 = true := by decide +kernel
theorem w_applies : (headSpec (Jvm.Cond.code x code maxLocals ret :: tables_1) room_1).applies x e0.platform about1 = true :=
  (Spec.applies_iff w_frames).mpr ⟨w_running, w_runnable, w_alone, w_named, w_hears, w_ripe, w_room, w_tables⟩
theorem atStart : AtStart classFile x code maxLocals ret World_1 tables_1 room_1 Calls_1 rest_1 Pre_1 launch0 p0 e0 about1 theMethod args0 below0 :=
  ⟨lists_1, trivial, launch0.admits_env _ _ _, launch0.least_env, fairChoices_fair.cas, fairChoices_fair.clock, w_frames, w_args, w_heap, w_applies, trivial, trivial, w_case⟩
end start1
theorem witness_1 : WitnessClaimed_1 := ⟨start1.p0, start1.e0, start1.about1, start1.theMethod, start1.args0, start1.below0, start1.atStart⟩
end Jvm.Pilot.@@N@@
