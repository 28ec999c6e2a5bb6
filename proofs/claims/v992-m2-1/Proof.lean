import JvmDerived
import JvmDerived.Pilot.@@N@@Statement
import JvmDerived.Pilot.@@N@@Code
set_option linter.unusedVariables false
set_option linter.unusedSimpArgs false
@@BLOCK:NumsL.lean.txt@@
namespace Jvm.RoadKit
open Sem ClassFile Op Lib Jvm.Stand Jvm.Free Jvm.LawKit
section OwnKit
variable {p : Program} {l : Launch} {e : Env} {R : Room} {s : State} {m : MethodId} {args : Array Value} {below : List Frame} {meth : Method} {c : Code} {Z : State} {y : MethodName} {bytes : ByteArray} {ml : Nat} {ret : Option FieldType} {n0 : Nat} {T : State} {h : Heap} {cells slots : Nat} {E : State → Prop} {pc : Nat} {Ls : Array Slot} {st rest : List Value} {a0 : Array Value}
/-- from here the run comes to an end of which E holds -/
def Go (p : Program) (e : Env) (below : List Frame) (E : State → Prop) (m : MethodId) (T : State) (pc : Nat) (Ls : Array Slot) (st : List Value) : Prop := ∃ u, Steps p.tables e below (T.setTop (mkF m pc Ls st)) u ∧ E u
/-- where a walk stands: the library's Stand, what was written is new, the heap, and what is known of the body -/
def SD (p : Program) (l : Launch) (e : Env) (R : Room) (s : State) (m : MethodId) (args : Array Value) (below : List Frame) (meth : Method) (c : Code) (Z : State) (y : MethodName) (bytes : ByteArray) (ml : Nat) (ret : Option FieldType) (n0 : Nat) (T : State) (h : Heap) (cells slots : Nat) : Prop :=
  (∃ locs, Stand p l e R s m args below meth c T locs cells slots ∧ Fr n0 locs) ∧ T.heap = h ∧ p.tables.exec = Jvm.exec ∧ Z.Warmed39 s.vm ∧ s.vm.findClass y.cls = some m.cls ∧ c.code = bytes ∧ c.maxLocals = ml ∧ meth.sig.returnType = ret ∧ meth.locks = false ∧ meth.name = y.name
/-- the end of a body that returns -/
def EndQ (s : State) (below : List Frame) (Q : Option Value → Heap → List Loc → Prop) (k n : Nat) (u : State) : Prop := ∃ o, u.status = .running ∧ Ended u below o ∧ ∃ v L, o = .returned v ∧ Q v u.heap L ∧ FrameEnd s o u L k n
theorem go_cut {A G : Prop} (h1 : A → G) (h2 : A) : G := h1 h2
theorem go_by {T' : State} {pc' : Nat} {Ls' : Array Slot} {st' : List Value} (k : ∀ u, Steps p.tables e below (T'.setTop (mkF m pc' Ls' st')) u → Steps p.tables e below (T.setTop (mkF m pc Ls st)) u) (g : Go p e below E m T' pc' Ls' st') : Go p e below E m T pc Ls st := by
  obtain ⟨u, h1, h2⟩ := g
  exact ⟨u, k u h1, h2⟩
theorem met_of {ws : List Cond} {rm : Room} {as : Array Value} {Q : Option Value → Heap → List Loc → Prop} {k n : Nat} (hn : plainFor y = true) (hef : ∀ m, entryFrame m as ml = mkF m 0 Ls [])
    (body : ∀ p e s m below meth c T E, E = EndQ s below Q k n → SD p l e rm s m as below meth c Z y bytes ml ret n0 T h 0 0 → Go p e below E m T 0 Ls []) :
    MetFree l y (head1 (Cond.code y bytes ml ret :: ws) rm) (fun a U => a = as ∧ Z.Warmed39 U.vm ∧ U.heap = h) (fun _ _ _ _ _ => True) (fun _ U o U' => ∃ v L, o = .returned v ∧ Q v U'.heap L ∧ FrameEnd U o U' L k n) := by
  refine MetFree.of_bodySF hn hisR ?_
  intro p e s m args below meth c s₁ Bd hml0 hP hK
  obtain ⟨rfl, hZ, hh⟩ := hP
  obtain ⟨u, h1, o, h2, h3, h4⟩ := body p e s m below meth c s₁ _ rfl ⟨⟨[], Stand.of_body Bd, Fr.nil n0⟩, by rw [← hh, Bd.state]; rfl, Bd.exec, hZ, findClass_of_methodNamed Bd.named, Bd.bytes, hml0, Bd.returns, Bd.notSynchronized, (name_of_methodNamed Bd.named Bd.method).1⟩
  exact ⟨u, o, castTop (hef m) h1, h2, h3, h4⟩
/-! ### returns -/
theorem go_end {Q : Option Value → Heap → List Loc → Prop} {kc ks : Nat} {v : Option Value} (X : SD p l e R s m args below meth c Z y bytes ml ret n0 T h cells slots) (hE : E = EndQ s below Q kc ks) (hv : meth.sig.returnType = none → v = none)
    (hstep : ∀ fs, (∀ (f : JFrame) (acts : List Action), f.method = m → f.locked = none → f.entered = [] → (doReturn e (T.setTop f) acts v).1 = T.setFrames fs) → Steps p.tables e below (T.setTop (mkF m pc Ls st)) (T.setFrames fs))
    (hQ : ∀ L, Fr n0 L → Q v h L) (hc : cells ≤ kc) (hs : slots ≤ ks) : Go p e below E m T pc Ls st := by
  subst hE
  obtain ⟨⟨locs, X, N⟩, hh, hx, hZ, hown, hby, hml, hret, hlk, hnm⟩ := X
  obtain ⟨fs, hr, hrun, hended, hW, hsame⟩ := X.leave (v := v) hv hlk
  refine ⟨_, hstep fs hr, _, hrun, hended, _, _, rfl, ?_, ⟨_, rfl⟩, hW, hsame.mono hc hs⟩
  show Q v T.heap _
  rw [hh]
  exact hQ _ N
theorem go_retI {Q : Option Value → Heap → List Loc → Prop} {kc ks : Nat} {z : Int32} (X : SD p l e R s m args below meth c Z y bytes ml (some .int) n0 T h cells slots) (hE : E = EndQ s below Q kc ks) (hd : decode bytes pc = .ok (.ireturn, 1))
    (hQ : ∀ L, Fr n0 L → Q (some (.int z)) h L) (hc : cells ≤ kc) (hs : slots ≤ ks) : Go p e below E m T pc Ls (.int z :: st) := by
  have X' := X
  obtain ⟨⟨locs, X, N⟩, hh, hx, hZ, hown, hby, hml, hret, hlk, hnm⟩ := X
  refine go_end X' hE (fun q => by rw [hret] at q; cases q) (fun fs hl => ?_) hQ hc hs
  have hm' : T.vm.method? m = some meth := X.method'
  have hn : narrow .int (.int z) = .int z := rfl
  have hd' := hb hby hd
  show Steps p.tables e below (T.setTop { method := m, pc := pc, locals := Ls, stack := _ :: st, locked := none }) _
  jvm_step X.here [X.here.top, hx, hd', hm', hret, hn]
  first | (intro acts; rw [hl _ acts rfl rfl rfl]) | rw [hl _ _ rfl rfl rfl]
  exact Steps.refl _
theorem go_retN {Q : Option Value → Heap → List Loc → Prop} {kc ks : Nat} {z : Int32} {t : FieldType} (X : SD p l e R s m args below meth c Z y bytes ml (some t) n0 T h cells slots) (hE : E = EndQ s below Q kc ks) (ht : t = .boolean ∨ t = .byte ∨ t = .char ∨ t = .short) (hd : decode bytes pc = .ok (.ireturn, 1))
    (hQ : ∀ L, Fr n0 L → Q (some (.int (nar t z))) h L) (hc : cells ≤ kc) (hs : slots ≤ ks) : Go p e below E m T pc Ls (.int z :: st) := by
  have X' := X
  obtain ⟨⟨locs, X, N⟩, hh, hx, hZ, hown, hby, hml, hret, hlk, hnm⟩ := X
  exact go_end X' hE (fun q => by rw [hret] at q; cases q) (fun fs hl => retN X hx hret ht (hb hby hd) hl) hQ hc hs
theorem go_retL {Q : Option Value → Heap → List Loc → Prop} {kc ks : Nat} {z : Int64} (X : SD p l e R s m args below meth c Z y bytes ml (some .long) n0 T h cells slots) (hE : E = EndQ s below Q kc ks) (hd : decode bytes pc = .ok (.lreturn, 1))
    (hQ : ∀ L, Fr n0 L → Q (some (.long z)) h L) (hc : cells ≤ kc) (hs : slots ≤ ks) : Go p e below E m T pc Ls (.long z :: st) := by
  have X' := X
  obtain ⟨⟨locs, X, N⟩, hh, hx, hZ, hown, hby, hml, hret, hlk, hnm⟩ := X
  exact go_end X' hE (fun q => by rw [hret] at q; cases q) (fun fs hl => retOut X hx hret rfl (Or.inr (Or.inl ⟨rfl, rfl, _, rfl⟩)) (hb hby hd) hl) hQ hc hs
theorem go_retA {Q : Option Value → Heap → List Loc → Prop} {kc ks : Nat} {w : Value} {t : FieldType} (X : SD p l e R s m args below meth c Z y bytes ml (some t) n0 T h cells slots) (hE : E = EndQ s below Q kc ks) (ht : t.isReference = true) (hw : w.isRef = true) (hd : decode bytes pc = .ok (.areturn, 1))
    (hQ : ∀ L, Fr n0 L → Q (some w) h L) (hc : cells ≤ kc) (hs : slots ≤ ks) : Go p e below E m T pc Ls (w :: st) := by
  have X' := X
  obtain ⟨⟨locs, X, N⟩, hh, hx, hZ, hown, hby, hml, hret, hlk, hnm⟩ := X
  refine go_end X' hE (fun q => by rw [hret] at q; cases q) (fun fs hl => retOut X hx hret ?_ (Or.inr (Or.inr (Or.inr (Or.inr ⟨rfl, ht, hw⟩)))) (hb hby hd) hl) hQ hc hs
  rcases ref_cases hw with rfl | ⟨a, rfl⟩ <;> (cases t <;> first | rfl | (simp [FieldType.isReference] at ht))
theorem go_retV {Q : Option Value → Heap → List Loc → Prop} {kc ks : Nat} (X : SD p l e R s m args below meth c Z y bytes ml none n0 T h cells slots) (hE : E = EndQ s below Q kc ks) (hd : decode bytes pc = .ok (.return_, 1))
    (hQ : ∀ L, Fr n0 L → Q none h L) (hc : cells ≤ kc) (hs : slots ≤ ks) : Go p e below E m T pc Ls [] := by
  have X' := X
  obtain ⟨⟨locs, X, N⟩, hh, hx, hZ, hown, hby, hml, hret, hlk, hnm⟩ := X
  exact go_end X' hE (fun _ => rfl) (fun fs hl => X.returnOut hx hret (hb hby hd) hl) hQ hc hs
/-! ### plain steps -/
theorem go_nmI {t : Int32} (k : ∀ z, z = t → Go p e below E m T pc Ls (.int z :: st)) : Go p e below E m T pc Ls (.int t :: st) := k t rfl
theorem go_nmL {t : Int64} (k : ∀ z, z = t → Go p e below E m T pc Ls (.long z :: st)) : Go p e below E m T pc Ls (.long t :: st) := k t rfl
theorem go_nmR {t : Addr} (k : ∀ z, z = t → Go p e below E m T pc Ls (.ref z :: st)) : Go p e below E m T pc Ls (.ref t :: st) := k t rfl
theorem go_eqI {t t' : Int32} (q : t = t') (k : Go p e below E m T pc Ls (.int t' :: st)) : Go p e below E m T pc Ls (.int t :: st) := q ▸ k
theorem go_eqL {t t' : Int64} (q : t = t') (k : Go p e below E m T pc Ls (.long t' :: st)) : Go p e below E m T pc Ls (.long t :: st) := q ▸ k
theorem go_iconst (X : SD p l e R s m args below meth c Z y bytes ml ret n0 T h cells slots) {i : Int} (z : Int32) (hd : decode bytes pc = .ok (.iconst i, 1)) (hz : Int32.ofInt i = z) (q : Nat) (hq : pc + 1 = q) (k : Go p e below E m T q Ls (.int z :: st)) : Go p e below E m T pc Ls st := by
  obtain ⟨⟨locs, X, N⟩, hh, hx, hZ, hown, hby, -⟩ := X
  subst hz hq
  exact go_by (fun _ r => XS.iconst X.here hx rfl (hb hby hd) r) k
theorem go_bipush (X : SD p l e R s m args below meth c Z y bytes ml ret n0 T h cells slots) {i : Int} (z : Int32) (hd : decode bytes pc = .ok (.bipush i, 2)) (hz : (Int8.ofInt i).toInt32 = z) (q : Nat) (hq : pc + 2 = q) (k : Go p e below E m T q Ls (.int z :: st)) : Go p e below E m T pc Ls st := by
  obtain ⟨⟨locs, X, N⟩, hh, hx, hZ, hown, hby, -⟩ := X
  subst hz hq
  exact go_by (fun _ r => XS.bipush X.here hx rfl (hb hby hd) r) k
theorem go_lconst (X : SD p l e R s m args below meth c Z y bytes ml ret n0 T h cells slots) {i : Fin 2} (z : Int64) (hd : decode bytes pc = .ok (.lconst i, 1)) (hz : Int64.ofNat i = z) (q : Nat) (hq : pc + 1 = q) (k : Go p e below E m T q Ls (.long z :: st)) : Go p e below E m T pc Ls st := by
  obtain ⟨⟨locs, X, N⟩, hh, hx, hZ, hown, hby, -⟩ := X
  subst hz hq
  exact go_by (fun _ r => XS.lconst X.here hx rfl (hb hby hd) r) k
theorem go_null (X : SD p l e R s m args below meth c Z y bytes ml ret n0 T h cells slots) (hd : decode bytes pc = .ok (.aconst_null, 1)) (q : Nat) (hq : pc + 1 = q) (k : Go p e below E m T q Ls (.null :: st)) : Go p e below E m T pc Ls st := by
  obtain ⟨⟨locs, X, N⟩, hh, hx, hZ, hown, hby, -⟩ := X
  subst hq
  exact go_by (fun _ r => XS.aconstNull X.here hx rfl (hb hby hd) r) k
theorem go_ldc (X : SD p l e R s m args below meth c Z y bytes ml ret n0 T h cells slots) {i : Nat} {z : Int32} (w : (Cond.constant y.cls i z).before a0 Z = true) (hd : decode bytes pc = .ok (.ldc i, 2)) (q : Nat) (hq : pc + 2 = q) (k : Go p e below E m T q Ls (.int z :: st)) : Go p e below E m T pc Ls st := by
  obtain ⟨⟨locs, X, N⟩, hh, hx, hZ, hown, hby, -⟩ := X
  subst hq
  exact go_by (fun _ r => X.ldcInt hx hown (mvT hZ w) (g := mkF m pc Ls st) rfl (hb hby hd) _ r) k
theorem go_ldc2 (X : SD p l e R s m args below meth c Z y bytes ml ret n0 T h cells slots) {i : Nat} {z : Int64} (w : (Cond.constantLong y.cls i z).before a0 Z = true) (hd : decode bytes pc = .ok (.ldc2_w i, 3)) (q : Nat) (hq : pc + 3 = q) (k : Go p e below E m T q Ls (.long z :: st)) : Go p e below E m T pc Ls st := by
  obtain ⟨⟨locs, X, N⟩, hh, hx, hZ, hown, hby, -⟩ := X
  subst hq
  exact go_by (fun _ r => X.ldc2Long hx hown (mvT hZ w) (g := mkF m pc Ls st) rfl (hb hby hd) _ r) k
theorem go_iloadN (X : SD p l e R s m args below meth c Z y bytes ml ret n0 T h cells slots) {i : Fin 4} {v : Int32} (hd : decode bytes pc = .ok (.iload_n i, 1)) (hl : Ls[i.val]? = some (.val (.int v))) (q : Nat) (hq : pc + 1 = q) (k : Go p e below E m T q Ls (.int v :: st)) : Go p e below E m T pc Ls st := by
  obtain ⟨⟨locs, X, N⟩, hh, hx, hZ, hown, hby, -⟩ := X
  subst hq
  exact go_by (fun _ r => XS.iloadN X.here hx rfl (hb hby hd) hl r) k
theorem go_iload (X : SD p l e R s m args below meth c Z y bytes ml ret n0 T h cells slots) {i : Nat} {v : Int32} (hd : decode bytes pc = .ok (.iload i, 2)) (hl : Ls[i]? = some (.val (.int v))) (q : Nat) (hq : pc + 2 = q) (k : Go p e below E m T q Ls (.int v :: st)) : Go p e below E m T pc Ls st := by
  obtain ⟨⟨locs, X, N⟩, hh, hx, hZ, hown, hby, -⟩ := X
  subst hq
  exact go_by (fun _ r => XS.iload X.here hx rfl (hb hby hd) hl r) k
theorem go_lloadN (X : SD p l e R s m args below meth c Z y bytes ml ret n0 T h cells slots) {i : Fin 4} {v : Int64} (hd : decode bytes pc = .ok (.lload_n i, 1)) (hl : Ls[i.val]? = some (.val (.long v))) (q : Nat) (hq : pc + 1 = q) (k : Go p e below E m T q Ls (.long v :: st)) : Go p e below E m T pc Ls st := by
  obtain ⟨⟨locs, X, N⟩, hh, hx, hZ, hown, hby, -⟩ := X
  subst hq
  exact go_by (fun _ r => XS.lloadN X.here hx rfl (hb hby hd) hl r) k
theorem go_lload (X : SD p l e R s m args below meth c Z y bytes ml ret n0 T h cells slots) {i : Nat} {v : Int64} (hd : decode bytes pc = .ok (.lload i, 2)) (hl : Ls[i]? = some (.val (.long v))) (q : Nat) (hq : pc + 2 = q) (k : Go p e below E m T q Ls (.long v :: st)) : Go p e below E m T pc Ls st := by
  obtain ⟨⟨locs, X, N⟩, hh, hx, hZ, hown, hby, -⟩ := X
  subst hq
  exact go_by (fun _ r => XS.lload X.here hx rfl (hb hby hd) hl r) k
theorem go_aloadN (X : SD p l e R s m args below meth c Z y bytes ml ret n0 T h cells slots) {i : Fin 4} {v : Value} (hd : decode bytes pc = .ok (.aload_n i, 1)) (hl : Ls[i.val]? = some (.val v)) (hv : v.isRef = true) (q : Nat) (hq : pc + 1 = q) (k : Go p e below E m T q Ls (v :: st)) : Go p e below E m T pc Ls st := by
  obtain ⟨⟨locs, X, N⟩, hh, hx, hZ, hown, hby, -⟩ := X
  subst hq
  exact go_by (fun _ r => XS.aloadN X.here hx rfl (hb hby hd) hl hv r) k
theorem go_aload (X : SD p l e R s m args below meth c Z y bytes ml ret n0 T h cells slots) {i : Nat} {v : Value} (hd : decode bytes pc = .ok (.aload i, 2)) (hl : Ls[i]? = some (.val v)) (hv : v.isRef = true) (q : Nat) (hq : pc + 2 = q) (k : Go p e below E m T q Ls (v :: st)) : Go p e below E m T pc Ls st := by
  obtain ⟨⟨locs, X, N⟩, hh, hx, hZ, hown, hby, -⟩ := X
  subst hq
  exact go_by (fun _ r => XS.aload X.here hx rfl (hb hby hd) hl hv r) k
theorem go_istoreN (X : SD p l e R s m args below meth c Z y bytes ml ret n0 T h cells slots) {i : Fin 4} {v : Int32} (l' : Array Slot) (hd : decode bytes pc = .ok (.istore_n i, 1)) (hl : storeLocals Ls i.val (.int v) = some l') (q : Nat) (hq : pc + 1 = q) (k : Go p e below E m T q l' st) : Go p e below E m T pc Ls (.int v :: st) := by
  obtain ⟨⟨locs, X, N⟩, hh, hx, hZ, hown, hby, -⟩ := X
  subst hq
  exact go_by (fun _ r => XS.istoreN X.here hx rfl (hb hby hd) rfl hl r) k
theorem go_istore (X : SD p l e R s m args below meth c Z y bytes ml ret n0 T h cells slots) {i : Nat} {v : Int32} (l' : Array Slot) (hd : decode bytes pc = .ok (.istore i, 2)) (hl : storeLocals Ls i (.int v) = some l') (q : Nat) (hq : pc + 2 = q) (k : Go p e below E m T q l' st) : Go p e below E m T pc Ls (.int v :: st) := by
  obtain ⟨⟨locs, X, N⟩, hh, hx, hZ, hown, hby, -⟩ := X
  subst hq
  exact go_by (fun _ r => XS.istore X.here hx rfl (hb hby hd) rfl hl r) k
theorem go_lstoreN (X : SD p l e R s m args below meth c Z y bytes ml ret n0 T h cells slots) {i : Fin 4} {v : Int64} (l' : Array Slot) (hd : decode bytes pc = .ok (.lstore_n i, 1)) (hl : storeLocals Ls i.val (.long v) = some l') (q : Nat) (hq : pc + 1 = q) (k : Go p e below E m T q l' st) : Go p e below E m T pc Ls (.long v :: st) := by
  obtain ⟨⟨locs, X, N⟩, hh, hx, hZ, hown, hby, -⟩ := X
  subst hq
  exact go_by (fun _ r => XS.lstoreN X.here hx rfl (hb hby hd) rfl hl r) k
theorem go_lstore (X : SD p l e R s m args below meth c Z y bytes ml ret n0 T h cells slots) {i : Nat} {v : Int64} (l' : Array Slot) (hd : decode bytes pc = .ok (.lstore i, 2)) (hl : storeLocals Ls i (.long v) = some l') (q : Nat) (hq : pc + 2 = q) (k : Go p e below E m T q l' st) : Go p e below E m T pc Ls (.long v :: st) := by
  obtain ⟨⟨locs, X, N⟩, hh, hx, hZ, hown, hby, -⟩ := X
  subst hq
  exact go_by (fun _ r => XS.lstore X.here hx rfl (hb hby hd) rfl hl r) k
theorem go_astoreN (X : SD p l e R s m args below meth c Z y bytes ml ret n0 T h cells slots) {i : Fin 4} {v : Value} (l' : Array Slot) (hd : decode bytes pc = .ok (.astore_n i, 1)) (hv : v.isRef = true) (hl : storeLocals Ls i.val v = some l') (q : Nat) (hq : pc + 1 = q) (k : Go p e below E m T q l' st) : Go p e below E m T pc Ls (v :: st) := by
  obtain ⟨⟨locs, X, N⟩, hh, hx, hZ, hown, hby, -⟩ := X
  subst hq
  exact go_by (fun _ r => XS.astoreN X.here hx rfl (hb hby hd) rfl hv hl r) k
theorem go_astore (X : SD p l e R s m args below meth c Z y bytes ml ret n0 T h cells slots) {i : Nat} {v : Value} (l' : Array Slot) (hd : decode bytes pc = .ok (.astore i, 2)) (hv : v.isRef = true) (hl : storeLocals Ls i v = some l') (q : Nat) (hq : pc + 2 = q) (k : Go p e below E m T q l' st) : Go p e below E m T pc Ls (v :: st) := by
  obtain ⟨⟨locs, X, N⟩, hh, hx, hZ, hown, hby, -⟩ := X
  subst hq
  exact go_by (fun _ r => XS.astore X.here hx rfl (hb hby hd) rfl hv hl r) k
theorem go_iadd (X : SD p l e R s m args below meth c Z y bytes ml ret n0 T h cells slots) {a : Int32} {b : Int32} (hd : decode bytes pc = .ok (.iadd, 1)) (q : Nat) (hq : pc + 1 = q) (k : Go p e below E m T q Ls (.int (a + b) :: st)) : Go p e below E m T pc Ls (.int b :: .int a :: st) := by
  obtain ⟨⟨locs, X, N⟩, hh, hx, hZ, hown, hby, -⟩ := X
  subst hq
  exact go_by (fun _ r => XS.iadd X.here hx rfl (hb hby hd) rfl r) k
theorem go_isub (X : SD p l e R s m args below meth c Z y bytes ml ret n0 T h cells slots) {a : Int32} {b : Int32} (hd : decode bytes pc = .ok (.isub, 1)) (q : Nat) (hq : pc + 1 = q) (k : Go p e below E m T q Ls (.int (a - b) :: st)) : Go p e below E m T pc Ls (.int b :: .int a :: st) := by
  obtain ⟨⟨locs, X, N⟩, hh, hx, hZ, hown, hby, -⟩ := X
  subst hq
  exact go_by (fun _ r => XS.isub X.here hx rfl (hb hby hd) rfl r) k
theorem go_imul (X : SD p l e R s m args below meth c Z y bytes ml ret n0 T h cells slots) {a : Int32} {b : Int32} (hd : decode bytes pc = .ok (.imul, 1)) (q : Nat) (hq : pc + 1 = q) (k : Go p e below E m T q Ls (.int (a * b) :: st)) : Go p e below E m T pc Ls (.int b :: .int a :: st) := by
  obtain ⟨⟨locs, X, N⟩, hh, hx, hZ, hown, hby, -⟩ := X
  subst hq
  exact go_by (fun _ r => XS.imul X.here hx rfl (hb hby hd) rfl r) k
theorem go_iand (X : SD p l e R s m args below meth c Z y bytes ml ret n0 T h cells slots) {a : Int32} {b : Int32} (hd : decode bytes pc = .ok (.iand, 1)) (q : Nat) (hq : pc + 1 = q) (k : Go p e below E m T q Ls (.int (a &&& b) :: st)) : Go p e below E m T pc Ls (.int b :: .int a :: st) := by
  obtain ⟨⟨locs, X, N⟩, hh, hx, hZ, hown, hby, -⟩ := X
  subst hq
  exact go_by (fun _ r => XS.iand X.here hx rfl (hb hby hd) rfl r) k
theorem go_ior (X : SD p l e R s m args below meth c Z y bytes ml ret n0 T h cells slots) {a : Int32} {b : Int32} (hd : decode bytes pc = .ok (.ior, 1)) (q : Nat) (hq : pc + 1 = q) (k : Go p e below E m T q Ls (.int (a ||| b) :: st)) : Go p e below E m T pc Ls (.int b :: .int a :: st) := by
  obtain ⟨⟨locs, X, N⟩, hh, hx, hZ, hown, hby, -⟩ := X
  subst hq
  exact go_by (fun _ r => XS.ior X.here hx rfl (hb hby hd) rfl r) k
theorem go_ixor (X : SD p l e R s m args below meth c Z y bytes ml ret n0 T h cells slots) {a : Int32} {b : Int32} (hd : decode bytes pc = .ok (.ixor, 1)) (q : Nat) (hq : pc + 1 = q) (k : Go p e below E m T q Ls (.int (a ^^^ b) :: st)) : Go p e below E m T pc Ls (.int b :: .int a :: st) := by
  obtain ⟨⟨locs, X, N⟩, hh, hx, hZ, hown, hby, -⟩ := X
  subst hq
  exact go_by (fun _ r => XS.ixor X.here hx rfl (hb hby hd) rfl r) k
theorem go_ishl (X : SD p l e R s m args below meth c Z y bytes ml ret n0 T h cells slots) {a : Int32} {b : Int32} (hd : decode bytes pc = .ok (.ishl, 1)) (q : Nat) (hq : pc + 1 = q) (k : Go p e below E m T q Ls (.int (a <<< (b &&& 31)) :: st)) : Go p e below E m T pc Ls (.int b :: .int a :: st) := by
  obtain ⟨⟨locs, X, N⟩, hh, hx, hZ, hown, hby, -⟩ := X
  subst hq
  exact go_by (fun _ r => XS.ishl X.here hx rfl (hb hby hd) rfl r) k
theorem go_ishr (X : SD p l e R s m args below meth c Z y bytes ml ret n0 T h cells slots) {a : Int32} {b : Int32} (hd : decode bytes pc = .ok (.ishr, 1)) (q : Nat) (hq : pc + 1 = q) (k : Go p e below E m T q Ls (.int (a >>> (b &&& 31)) :: st)) : Go p e below E m T pc Ls (.int b :: .int a :: st) := by
  obtain ⟨⟨locs, X, N⟩, hh, hx, hZ, hown, hby, -⟩ := X
  subst hq
  exact go_by (fun _ r => XS.ishr X.here hx rfl (hb hby hd) rfl r) k
theorem go_iushr (X : SD p l e R s m args below meth c Z y bytes ml ret n0 T h cells slots) {a : Int32} {b : Int32} (hd : decode bytes pc = .ok (.iushr, 1)) (q : Nat) (hq : pc + 1 = q) (k : Go p e below E m T q Ls (.int (XT.ushr a b) :: st)) : Go p e below E m T pc Ls (.int b :: .int a :: st) := by
  obtain ⟨⟨locs, X, N⟩, hh, hx, hZ, hown, hby, -⟩ := X
  subst hq
  exact go_by (fun _ r => XT.iushr X.here hx rfl (hb hby hd) rfl r) k
theorem go_idiv (X : SD p l e R s m args below meth c Z y bytes ml ret n0 T h cells slots) {a : Int32} {b : Int32} (hd : decode bytes pc = .ok (.idiv, 1)) (hy : b ≠ 0) (q : Nat) (hq : pc + 1 = q) (k : Go p e below E m T q Ls (.int (a / b) :: st)) : Go p e below E m T pc Ls (.int b :: .int a :: st) := by
  obtain ⟨⟨locs, X, N⟩, hh, hx, hZ, hown, hby, -⟩ := X
  subst hq
  exact go_by (fun _ r => XS.idiv X.here hx rfl (hb hby hd) rfl hy r) k
theorem go_ladd (X : SD p l e R s m args below meth c Z y bytes ml ret n0 T h cells slots) {a : Int64} {b : Int64} (hd : decode bytes pc = .ok (.ladd, 1)) (q : Nat) (hq : pc + 1 = q) (k : Go p e below E m T q Ls (.long (a + b) :: st)) : Go p e below E m T pc Ls (.long b :: .long a :: st) := by
  obtain ⟨⟨locs, X, N⟩, hh, hx, hZ, hown, hby, -⟩ := X
  subst hq
  exact go_by (fun _ r => XS.ladd X.here hx rfl (hb hby hd) rfl r) k
theorem go_lsub (X : SD p l e R s m args below meth c Z y bytes ml ret n0 T h cells slots) {a : Int64} {b : Int64} (hd : decode bytes pc = .ok (.lsub, 1)) (q : Nat) (hq : pc + 1 = q) (k : Go p e below E m T q Ls (.long (a - b) :: st)) : Go p e below E m T pc Ls (.long b :: .long a :: st) := by
  obtain ⟨⟨locs, X, N⟩, hh, hx, hZ, hown, hby, -⟩ := X
  subst hq
  exact go_by (fun _ r => XS.lsub X.here hx rfl (hb hby hd) rfl r) k
theorem go_lmul (X : SD p l e R s m args below meth c Z y bytes ml ret n0 T h cells slots) {a : Int64} {b : Int64} (hd : decode bytes pc = .ok (.lmul, 1)) (q : Nat) (hq : pc + 1 = q) (k : Go p e below E m T q Ls (.long (a * b) :: st)) : Go p e below E m T pc Ls (.long b :: .long a :: st) := by
  obtain ⟨⟨locs, X, N⟩, hh, hx, hZ, hown, hby, -⟩ := X
  subst hq
  exact go_by (fun _ r => XS.lmul X.here hx rfl (hb hby hd) rfl r) k
theorem go_land (X : SD p l e R s m args below meth c Z y bytes ml ret n0 T h cells slots) {a : Int64} {b : Int64} (hd : decode bytes pc = .ok (.land, 1)) (q : Nat) (hq : pc + 1 = q) (k : Go p e below E m T q Ls (.long (a &&& b) :: st)) : Go p e below E m T pc Ls (.long b :: .long a :: st) := by
  obtain ⟨⟨locs, X, N⟩, hh, hx, hZ, hown, hby, -⟩ := X
  subst hq
  exact go_by (fun _ r => XS.land X.here hx rfl (hb hby hd) rfl r) k
theorem go_lor (X : SD p l e R s m args below meth c Z y bytes ml ret n0 T h cells slots) {a : Int64} {b : Int64} (hd : decode bytes pc = .ok (.lor, 1)) (q : Nat) (hq : pc + 1 = q) (k : Go p e below E m T q Ls (.long (a ||| b) :: st)) : Go p e below E m T pc Ls (.long b :: .long a :: st) := by
  obtain ⟨⟨locs, X, N⟩, hh, hx, hZ, hown, hby, -⟩ := X
  subst hq
  exact go_by (fun _ r => XS.lor X.here hx rfl (hb hby hd) rfl r) k
theorem go_lxor (X : SD p l e R s m args below meth c Z y bytes ml ret n0 T h cells slots) {a : Int64} {b : Int64} (hd : decode bytes pc = .ok (.lxor, 1)) (q : Nat) (hq : pc + 1 = q) (k : Go p e below E m T q Ls (.long (a ^^^ b) :: st)) : Go p e below E m T pc Ls (.long b :: .long a :: st) := by
  obtain ⟨⟨locs, X, N⟩, hh, hx, hZ, hown, hby, -⟩ := X
  subst hq
  exact go_by (fun _ r => XS.lxor X.here hx rfl (hb hby hd) rfl r) k
theorem go_lshl (X : SD p l e R s m args below meth c Z y bytes ml ret n0 T h cells slots) {a : Int64} {b : Int32} (hd : decode bytes pc = .ok (.lshl, 1)) (q : Nat) (hq : pc + 1 = q) (k : Go p e below E m T q Ls (.long (a <<< (b.toInt64 &&& 63)) :: st)) : Go p e below E m T pc Ls (.int b :: .long a :: st) := by
  obtain ⟨⟨locs, X, N⟩, hh, hx, hZ, hown, hby, -⟩ := X
  subst hq
  exact go_by (fun _ r => XT.lshl X.here hx rfl (hb hby hd) rfl r) k
theorem go_lshr (X : SD p l e R s m args below meth c Z y bytes ml ret n0 T h cells slots) {a : Int64} {b : Int32} (hd : decode bytes pc = .ok (.lshr, 1)) (q : Nat) (hq : pc + 1 = q) (k : Go p e below E m T q Ls (.long (a >>> (b.toInt64 &&& 63)) :: st)) : Go p e below E m T pc Ls (.int b :: .long a :: st) := by
  obtain ⟨⟨locs, X, N⟩, hh, hx, hZ, hown, hby, -⟩ := X
  subst hq
  exact go_by (fun _ r => XT.lshr X.here hx rfl (hb hby hd) rfl r) k
theorem go_lushr (X : SD p l e R s m args below meth c Z y bytes ml ret n0 T h cells slots) {a : Int64} {b : Int32} (hd : decode bytes pc = .ok (.lushr, 1)) (q : Nat) (hq : pc + 1 = q) (k : Go p e below E m T q Ls (.long (XT.ushrL a b) :: st)) : Go p e below E m T pc Ls (.int b :: .long a :: st) := by
  obtain ⟨⟨locs, X, N⟩, hh, hx, hZ, hown, hby, -⟩ := X
  subst hq
  exact go_by (fun _ r => XT.lushr X.here hx rfl (hb hby hd) rfl r) k
theorem go_ldiv (X : SD p l e R s m args below meth c Z y bytes ml ret n0 T h cells slots) {a : Int64} {b : Int64} (hd : decode bytes pc = .ok (.ldiv, 1)) (hy : b ≠ 0) (q : Nat) (hq : pc + 1 = q) (k : Go p e below E m T q Ls (.long (a / b) :: st)) : Go p e below E m T pc Ls (.long b :: .long a :: st) := by
  obtain ⟨⟨locs, X, N⟩, hh, hx, hZ, hown, hby, -⟩ := X
  subst hq
  exact go_by (fun _ r => XS.ldiv X.here hx rfl (hb hby hd) rfl hy r) k
theorem go_irem (X : SD p l e R s m args below meth c Z y bytes ml ret n0 T h cells slots) {a b : Int32} (hd : decode bytes pc = .ok (.irem, 1)) (hy : b ≠ 0) (q : Nat) (hq : pc + 1 = q) (k : Go p e below E m T q Ls (.int (a % b) :: st)) : Go p e below E m T pc Ls (.int b :: .int a :: st) := by
  obtain ⟨⟨locs, X, N⟩, hh, hx, hZ, hown, hby, -⟩ := X
  subst hq
  exact go_by (fun _ r => iremM X hx rfl (hb hby hd) rfl hy r) k
theorem go_lrem (X : SD p l e R s m args below meth c Z y bytes ml ret n0 T h cells slots) {a b : Int64} (hd : decode bytes pc = .ok (.lrem, 1)) (hy : b ≠ 0) (q : Nat) (hq : pc + 1 = q) (k : Go p e below E m T q Ls (.long (a - (a / b) * b) :: st)) : Go p e below E m T pc Ls (.long b :: .long a :: st) := by
  obtain ⟨⟨locs, X, N⟩, hh, hx, hZ, hown, hby, -⟩ := X
  subst hq
  exact go_by (fun _ r => XS.lrem X.here hx rfl (hb hby hd) rfl hy r) k
theorem go_ineg (X : SD p l e R s m args below meth c Z y bytes ml ret n0 T h cells slots) {a : Int32} (hd : decode bytes pc = .ok (.ineg, 1)) (q : Nat) (hq : pc + 1 = q) (k : Go p e below E m T q Ls (.int (-a) :: st)) : Go p e below E m T pc Ls (.int a :: st) := by
  obtain ⟨⟨locs, X, N⟩, hh, hx, hZ, hown, hby, -⟩ := X
  subst hq
  exact go_by (fun _ r => XS.ineg X.here hx rfl (hb hby hd) rfl r) k
theorem go_lneg (X : SD p l e R s m args below meth c Z y bytes ml ret n0 T h cells slots) {a : Int64} (hd : decode bytes pc = .ok (.lneg, 1)) (q : Nat) (hq : pc + 1 = q) (k : Go p e below E m T q Ls (.long (-a) :: st)) : Go p e below E m T pc Ls (.long a :: st) := by
  obtain ⟨⟨locs, X, N⟩, hh, hx, hZ, hown, hby, -⟩ := X
  subst hq
  exact go_by (fun _ r => XS.lneg X.here hx rfl (hb hby hd) rfl r) k
theorem go_i2l (X : SD p l e R s m args below meth c Z y bytes ml ret n0 T h cells slots) {a : Int32} (hd : decode bytes pc = .ok (.i2l, 1)) (q : Nat) (hq : pc + 1 = q) (k : Go p e below E m T q Ls (.long (a.toInt64) :: st)) : Go p e below E m T pc Ls (.int a :: st) := by
  obtain ⟨⟨locs, X, N⟩, hh, hx, hZ, hown, hby, -⟩ := X
  subst hq
  exact go_by (fun _ r => XS.i2l X.here hx rfl (hb hby hd) rfl r) k
theorem go_l2i (X : SD p l e R s m args below meth c Z y bytes ml ret n0 T h cells slots) {a : Int64} (hd : decode bytes pc = .ok (.l2i, 1)) (q : Nat) (hq : pc + 1 = q) (k : Go p e below E m T q Ls (.int (a.toInt32) :: st)) : Go p e below E m T pc Ls (.long a :: st) := by
  obtain ⟨⟨locs, X, N⟩, hh, hx, hZ, hown, hby, -⟩ := X
  subst hq
  exact go_by (fun _ r => XS.l2i X.here hx rfl (hb hby hd) rfl r) k
theorem go_i2b (X : SD p l e R s m args below meth c Z y bytes ml ret n0 T h cells slots) {a : Int32} (hd : decode bytes pc = .ok (.i2b, 1)) (q : Nat) (hq : pc + 1 = q) (k : Go p e below E m T q Ls (.int (a.toInt8.toInt32) :: st)) : Go p e below E m T pc Ls (.int a :: st) := by
  obtain ⟨⟨locs, X, N⟩, hh, hx, hZ, hown, hby, -⟩ := X
  subst hq
  exact go_by (fun _ r => XS.i2b X.here hx rfl (hb hby hd) rfl r) k
theorem go_i2c (X : SD p l e R s m args below meth c Z y bytes ml ret n0 T h cells slots) {a : Int32} (hd : decode bytes pc = .ok (.i2c, 1)) (q : Nat) (hq : pc + 1 = q) (k : Go p e below E m T q Ls (.int (a.toUInt32.toUInt16.toUInt32.toInt32) :: st)) : Go p e below E m T pc Ls (.int a :: st) := by
  obtain ⟨⟨locs, X, N⟩, hh, hx, hZ, hown, hby, -⟩ := X
  subst hq
  exact go_by (fun _ r => XS.i2c X.here hx rfl (hb hby hd) rfl r) k
theorem go_i2s (X : SD p l e R s m args below meth c Z y bytes ml ret n0 T h cells slots) {a : Int32} (hd : decode bytes pc = .ok (.i2s, 1)) (q : Nat) (hq : pc + 1 = q) (k : Go p e below E m T q Ls (.int (a.toInt16.toInt32) :: st)) : Go p e below E m T pc Ls (.int a :: st) := by
  obtain ⟨⟨locs, X, N⟩, hh, hx, hZ, hown, hby, -⟩ := X
  subst hq
  exact go_by (fun _ r => XS.i2s X.here hx rfl (hb hby hd) rfl r) k
theorem go_sipush (X : SD p l e R s m args below meth c Z y bytes ml ret n0 T h cells slots) {i : Int} (z : Int32) (hd : decode bytes pc = .ok (.sipush i, 3)) (hz : (Int16.ofInt i).toInt32 = z) (q : Nat) (hq : pc + 3 = q) (k : Go p e below E m T q Ls (.int z :: st)) : Go p e below E m T pc Ls st := by
  obtain ⟨⟨locs, X, N⟩, hh, hx, hZ, hown, hby, -⟩ := X
  subst hz hq
  exact go_by (fun _ r => XS.sipush X.here hx rfl (hb hby hd) r) k
theorem go_iinc (X : SD p l e R s m args below meth c Z y bytes ml ret n0 T h cells slots) {i : Nat} {j : Int} {v : Int32} (z : Int32) (l' : Array Slot) (hd : decode bytes pc = .ok (.iinc i j, 3)) (hl : Ls[i]? = some (.val (.int v))) (hz : v + Int32.ofInt j = z) (hl' : storeLocals Ls i (.int z) = some l') (q : Nat) (hq : pc + 3 = q) (k : Go p e below E m T q l' st) : Go p e below E m T pc Ls st := by
  obtain ⟨⟨locs, X, N⟩, hh, hx, hZ, hown, hby, -⟩ := X
  subst hz hq
  exact go_by (fun _ r => XS.iinc X.here hx rfl (hb hby hd) hl hl' r) k
theorem go_dup (X : SD p l e R s m args below meth c Z y bytes ml ret n0 T h cells slots) {v : Value} (hd : decode bytes pc = .ok (.dup, 1)) (hv : v.category = 1) (q : Nat) (hq : pc + 1 = q) (k : Go p e below E m T q Ls (v :: v :: st)) : Go p e below E m T pc Ls (v :: st) := by
  obtain ⟨⟨locs, X, N⟩, hh, hx, hZ, hown, hby, -⟩ := X
  subst hq
  exact go_by (fun _ r => XS.dup X.here hx rfl (hb hby hd) rfl hv r) k
theorem go_pop (X : SD p l e R s m args below meth c Z y bytes ml ret n0 T h cells slots) {v : Value} (hd : decode bytes pc = .ok (.pop, 1)) (hv : v.category = 1) (q : Nat) (hq : pc + 1 = q) (k : Go p e below E m T q Ls st) : Go p e below E m T pc Ls (v :: st) := by
  obtain ⟨⟨locs, X, N⟩, hh, hx, hZ, hown, hby, -⟩ := X
  subst hq
  exact go_by (fun _ r => XS.pop X.here hx rfl (hb hby hd) rfl hv r) k
theorem go_goto (X : SD p l e R s m args below meth c Z y bytes ml ret n0 T h cells slots) {o : Int} (q : Nat) (hd : decode bytes pc = .ok (.goto o, 3)) (ho : 0 ≤ (pc : Int) + o) (hp : ((pc : Int) + o).toNat = q) (k : Go p e below E m T q Ls st) : Go p e below E m T pc Ls st := by
  obtain ⟨⟨locs, X, N⟩, hh, hx, hZ, hown, hby, -⟩ := X
  exact go_by (fun _ r => XS.goto X.here hx rfl (pc0 := pc) (pc' := q) rfl (hb hby hd) ho hp r) k
/-! ### forks -/
def icP : ClassFile.Cond → Int32 → Int32 → Prop
  | .eq, a, b => a = b
  | .ne, a, b => ¬ a = b
  | .lt, a, b => a < b
  | .ge, a, b => ¬ a < b
  | .gt, a, b => b < a
  | .le, a, b => ¬ b < a
def lcP : ClassFile.Cond → Int64 → Int64 → Prop
  | .eq, a, b => a = b
  | .ne, a, b => ¬ a = b
  | .lt, a, b => a < b
  | .ge, a, b => ¬ a < b
  | .gt, a, b => b < a
  | .le, a, b => ¬ b < a
theorem ic_holds (cd : ClassFile.Cond) (a b : Int32) : (if_icmp.holds cd a b = true → icP cd a b) ∧ (if_icmp.holds cd a b = false → ¬ icP cd a b) := by
  cases cd <;> simp [if_icmp.holds, icP, Int32.not_lt, Int32.not_le]
theorem lc_holds (cd : ClassFile.Cond) (a b : Int64) : (if_icmp.holds cd (XT.cmpL a b) 0 = true → lcP cd a b) ∧ (if_icmp.holds cd (XT.cmpL a b) 0 = false → ¬ lcP cd a b) := by
  have e : XT.cmpL a b = lcmpW a b := rfl
  rw [e]
  have h1 := lw_lt a b
  have h2 := lw_gt a b
  have h3 := lw_eq a b
  cases cd <;> simp [if_icmp.holds, lcP, Int32.not_lt, Int32.not_le, ← h1, ← h2, ← h3]
theorem go_icmp (X : SD p l e R s m args below meth c Z y bytes ml ret n0 T h cells slots) {cd : ClassFile.Cond} {o : Int} {a b : Int32} (q q' : Nat) (hd : decode bytes pc = .ok (.if_icmp cd o, 3)) (hq : pc + 3 = q) (ho : 0 ≤ (pc : Int) + o) (hp : ((pc : Int) + o).toNat = q') (k1 : icP cd a b → Go p e below E m T q' Ls st) (k2 : ¬ icP cd a b → Go p e below E m T q Ls st) : Go p e below E m T pc Ls (.int b :: .int a :: st) := by
  obtain ⟨⟨locs, X, N⟩, hh, hx, hZ, hown, hby, -⟩ := X
  subst hq
  cases hc : if_icmp.holds cd a b
  · exact go_by (fun _ r => XS.icmpNo X.here hx rfl (hb hby hd) rfl hc r) (k2 ((ic_holds cd a b).2 hc))
  · exact go_by (fun _ r => XS.icmpYes X.here hx rfl (pc0 := pc) (pc' := q') rfl (hb hby hd) rfl hc ho hp r) (k1 ((ic_holds cd a b).1 hc))
theorem go_if (X : SD p l e R s m args below meth c Z y bytes ml ret n0 T h cells slots) {cd : ClassFile.Cond} {o : Int} {a : Int32} (q q' : Nat) (hd : decode bytes pc = .ok (.ifCond cd o, 3)) (hq : pc + 3 = q) (ho : 0 ≤ (pc : Int) + o) (hp : ((pc : Int) + o).toNat = q') (k1 : icP cd a 0 → Go p e below E m T q' Ls st) (k2 : ¬ icP cd a 0 → Go p e below E m T q Ls st) : Go p e below E m T pc Ls (.int a :: st) := by
  obtain ⟨⟨locs, X, N⟩, hh, hx, hZ, hown, hby, -⟩ := X
  subst hq
  cases hc : ifCond.holds cd a
  · exact go_by (fun _ r => XS.ifNo X.here hx rfl (hb hby hd) rfl hc r) (k2 ((ic_holds cd a 0).2 ((if0 cd a).symm.trans hc)))
  · exact go_by (fun _ r => XS.ifYes X.here hx rfl (pc0 := pc) (pc' := q') rfl (hb hby hd) rfl hc ho hp r) (k1 ((ic_holds cd a 0).1 ((if0 cd a).symm.trans hc)))
theorem go_lif (X : SD p l e R s m args below meth c Z y bytes ml ret n0 T h cells slots) {cd : ClassFile.Cond} {o : Int} {a b : Int64} (pc1 q q' : Nat) (hd0 : decode bytes pc = .ok (.lcmp, 1)) (hq0 : pc + 1 = pc1) (hd : decode bytes pc1 = .ok (.ifCond cd o, 3)) (hq : pc1 + 3 = q) (ho : 0 ≤ (pc1 : Int) + o) (hp : ((pc1 : Int) + o).toNat = q') (k1 : lcP cd a b → Go p e below E m T q' Ls st) (k2 : ¬ lcP cd a b → Go p e below E m T q Ls st) : Go p e below E m T pc Ls (.long b :: .long a :: st) := by
  have X' := X
  obtain ⟨⟨locs, X, N⟩, hh, hx, hZ, hown, hby, -⟩ := X
  subst hq0
  refine go_by (fun _ r => XT.lcmp X.here hx rfl (hb hby hd0) rfl r) ?_
  refine go_if X' q q' hd hq ho hp (fun hc => k1 ?_) (fun hc => k2 ?_)
  · have := lc_holds cd a b
    revert hc this
    cases hh : if_icmp.holds cd (XT.cmpL a b) 0
    · exact fun hc _ => absurd hc ((ic_holds cd _ 0).2 hh)
    · exact fun _ t => t.1 rfl
  · have := lc_holds cd a b
    revert hc this
    cases hh : if_icmp.holds cd (XT.cmpL a b) 0
    · exact fun _ t => t.2 rfl
    · exact fun hc _ => absurd ((ic_holds cd _ 0).1 hh) hc
def acP : ACond → Value → Value → Prop
  | .eq, a, b => a = b
  | .ne, a, b => ¬ a = b
theorem go_acmp (X : SD p l e R s m args below meth c Z y bytes ml ret n0 T h cells slots) {cd : ACond} {o : Int} {a b : Value} (q q' : Nat) (hd : decode bytes pc = .ok (.if_acmp cd o, 3)) (ha : a.isRef = true) (hb' : b.isRef = true) (hq : pc + 3 = q) (ho : 0 ≤ (pc : Int) + o) (hp : ((pc : Int) + o).toNat = q') (k1 : acP cd a b → Go p e below E m T q' Ls st) (k2 : ¬ acP cd a b → Go p e below E m T q Ls st) : Go p e below E m T pc Ls (b :: a :: st) := by
  obtain ⟨⟨locs, X, N⟩, hh, hx, hZ, hown, hby, -⟩ := X
  subst hq
  by_cases hc : a = b
  · cases cd
    · exact go_by (fun _ r => Jvm.RoadKit.acmp (g := mkF m pc Ls (b :: a :: st)) X hx rfl ha hb' (pc0 := pc) (pc' := q') (same := true) rfl (hb hby hd) rfl (decide_eq_true hc) ho (by simp [acV, hp]) r) (k1 hc)
    · exact go_by (fun _ r => Jvm.RoadKit.acmp (g := mkF m pc Ls (b :: a :: st)) X hx rfl ha hb' (pc0 := pc) (pc' := pc + 3) (same := true) rfl (hb hby hd) rfl (decide_eq_true hc) ho (by simp [acV]) r) (k2 (fun z => z hc))
  · cases cd
    · exact go_by (fun _ r => Jvm.RoadKit.acmp (g := mkF m pc Ls (b :: a :: st)) X hx rfl ha hb' (pc0 := pc) (pc' := pc + 3) (same := false) rfl (hb hby hd) rfl (decide_eq_false hc) ho (by simp [acV]) r) (k2 hc)
    · exact go_by (fun _ r => Jvm.RoadKit.acmp (g := mkF m pc Ls (b :: a :: st)) X hx rfl ha hb' (pc0 := pc) (pc' := q') (same := false) rfl (hb hby hd) rfl (decide_eq_false hc) ho (by simp [acV, hp]) r) (k1 hc)
theorem go_ifnull (X : SD p l e R s m args below meth c Z y bytes ml ret n0 T h cells slots) {o : Int} {a : Value} (q q' : Nat) (hd : decode bytes pc = .ok (.ifnull o, 3)) (ha : a.isRef = true) (hq : pc + 3 = q) (ho : 0 ≤ (pc : Int) + o) (hp : ((pc : Int) + o).toNat = q') (k1 : a = .null → Go p e below E m T q' Ls st) (k2 : ¬ a = .null → Go p e below E m T q Ls st) : Go p e below E m T pc Ls (a :: st) := by
  obtain ⟨⟨locs, X, N⟩, hh, hx, hZ, hown, hby, -⟩ := X
  subst hq
  rcases ref_cases ha with rfl | ⟨a, rfl⟩
  · exact go_by (fun _ r => XS.ifnullYes X.here hx rfl (pc0 := pc) (pc' := q') rfl (hb hby hd) rfl ho hp r) (k1 rfl)
  · exact go_by (fun _ r => XS.ifnullNo X.here hx rfl (hb hby hd) rfl r) (k2 (fun z => by cases z))
theorem go_ifnonnull (X : SD p l e R s m args below meth c Z y bytes ml ret n0 T h cells slots) {o : Int} {a : Value} (q q' : Nat) (hd : decode bytes pc = .ok (.ifnonnull o, 3)) (ha : a.isRef = true) (hq : pc + 3 = q) (ho : 0 ≤ (pc : Int) + o) (hp : ((pc : Int) + o).toNat = q') (k1 : ¬ a = .null → Go p e below E m T q' Ls st) (k2 : a = .null → Go p e below E m T q Ls st) : Go p e below E m T pc Ls (a :: st) := by
  obtain ⟨⟨locs, X, N⟩, hh, hx, hZ, hown, hby, -⟩ := X
  subst hq
  rcases ref_cases ha with rfl | ⟨a, rfl⟩
  · exact go_by (fun _ r => XS.ifnonnullNo X.here hx rfl (hb hby hd) rfl r) (k2 rfl)
  · exact go_by (fun _ r => XS.ifnonnullYes X.here hx rfl (pc0 := pc) (pc' := q') rfl (hb hby hd) rfl ho hp r) (k1 (fun z => by cases z))
theorem go_ifnullR (X : SD p l e R s m args below meth c Z y bytes ml ret n0 T h cells slots) {o : Int} {a : Addr} (hd : decode bytes pc = .ok (.ifnull o, 3)) (q : Nat) (hq : pc + 3 = q) (k : Go p e below E m T q Ls st) : Go p e below E m T pc Ls (.ref a :: st) := by
  obtain ⟨⟨locs, X, N⟩, hh, hx, hZ, hown, hby, -⟩ := X
  subst hq
  exact go_by (fun _ r => XS.ifnullNo X.here hx rfl (hb hby hd) rfl r) k
theorem go_ifnullN (X : SD p l e R s m args below meth c Z y bytes ml ret n0 T h cells slots) {o : Int} (hd : decode bytes pc = .ok (.ifnull o, 3)) (q : Nat) (ho : 0 ≤ (pc : Int) + o) (hp : ((pc : Int) + o).toNat = q) (k : Go p e below E m T q Ls st) : Go p e below E m T pc Ls (.null :: st) := by
  obtain ⟨⟨locs, X, N⟩, hh, hx, hZ, hown, hby, -⟩ := X
  exact go_by (fun _ r => XS.ifnullYes X.here hx rfl (pc0 := pc) (pc' := q) rfl (hb hby hd) rfl ho hp r) k
theorem go_ifnonnullN (X : SD p l e R s m args below meth c Z y bytes ml ret n0 T h cells slots) {o : Int} (hd : decode bytes pc = .ok (.ifnonnull o, 3)) (q : Nat) (hq : pc + 3 = q) (k : Go p e below E m T q Ls st) : Go p e below E m T pc Ls (.null :: st) := by
  obtain ⟨⟨locs, X, N⟩, hh, hx, hZ, hown, hby, -⟩ := X
  subst hq
  exact go_by (fun _ r => XS.ifnonnullNo X.here hx rfl (hb hby hd) rfl r) k
theorem go_ifnonnullR (X : SD p l e R s m args below meth c Z y bytes ml ret n0 T h cells slots) {o : Int} {a : Addr} (hd : decode bytes pc = .ok (.ifnonnull o, 3)) (q : Nat) (ho : 0 ≤ (pc : Int) + o) (hp : ((pc : Int) + o).toNat = q) (k : Go p e below E m T q Ls st) : Go p e below E m T pc Ls (.ref a :: st) := by
  obtain ⟨⟨locs, X, N⟩, hh, hx, hZ, hown, hby, -⟩ := X
  exact go_by (fun _ r => XS.ifnonnullYes X.here hx rfl (pc0 := pc) (pc' := q) rfl (hb hby hd) rfl ho hp r) k
def raP : ACond → Addr → Addr → Prop
  | .eq, a, b => a = b
  | .ne, a, b => ¬ a = b
theorem go_acmpR (X : SD p l e R s m args below meth c Z y bytes ml ret n0 T h cells slots) {cd : ACond} {o : Int} {a b : Addr} (q q' : Nat) (hd : decode bytes pc = .ok (.if_acmp cd o, 3)) (hq : pc + 3 = q) (ho : 0 ≤ (pc : Int) + o) (hp : ((pc : Int) + o).toNat = q') (k1 : raP cd a b → Go p e below E m T q' Ls st) (k2 : ¬ raP cd a b → Go p e below E m T q Ls st) : Go p e below E m T pc Ls (.ref b :: .ref a :: st) := by
  refine go_acmp X q q' hd rfl rfl hq ho hp (fun z => k1 ?_) (fun z => k2 ?_)
  · cases cd
    · exact Value.ref.inj z
    · exact fun w => z (congrArg Value.ref w)
  · cases cd
    · exact fun w => z (congrArg Value.ref w)
    · exact fun w => z (fun u => w (Value.ref.inj u))
theorem own_cat {v : Value} (q : v.isRef = true) : v.category = 1 := by
  rcases ref_cases q with rfl | ⟨a, rfl⟩ <;> rfl
theorem own_iteR {q : Prop} [Decidable q] {a b : Value} (ha : a.isRef = true) (hb : b.isRef = true) : (if q then a else b).isRef = true := by split <;> assumption
theorem own_catI (x : Int32) : (Value.int x).category = 1 := rfl
theorem own_catJ (x : Int64) : (Value.long x).category = 2 := rfl
theorem own_catR (x : Addr) : (Value.ref x).category = 1 := rfl
theorem go_tsw (X : SD p l e R s m args below meth c Z y bytes ml ret n0 T h cells slots) {dflt low high o : Int} {offs : Array Int} {len : Nat} {i : Int32} (q : Nat) (hd : decode bytes pc = .ok (.tableswitch dflt low high offs, len)) (hin : ¬ (i.toInt < low ∨ i.toInt > high)) (hoff : offs[(i.toInt - low).toNat]? = some o) (ho : 0 ≤ (pc : Int) + o) (hp : ((pc : Int) + o).toNat = q) (k : Go p e below E m T q Ls st) : Go p e below E m T pc Ls (.int i :: st) := by
  obtain ⟨⟨locs, X, N⟩, hh, hx, hZ, hown, hby, -⟩ := X
  exact go_by (fun _ r => XS.tswIn X.here hx rfl (pc0 := pc) (pc' := q) rfl (hb hby hd) rfl hin hoff ho hp r) k
/-! ### fields, statics, arrays, new -/
theorem go_getS (X : SD p l e R s m args below meth c Z y bytes ml ret n0 T h cells slots) {O n d : String} {i : Nat} {v : Value} (w : (Cond.fieldLink y.cls i O n d).before a0 Z = true) (F : Sta Z h O n d v) (hd : decode bytes pc = .ok (.getstatic i, 3)) (q : Nat) (hq : pc + 3 = q)
    (k : ∀ T', SD p l e R s m args below meth c Z y bytes ml ret n0 T' h cells slots → Go p e below E m T' q Ls (v :: st)) : Go p e below E m T pc Ls st := by
  obtain ⟨⟨locs, X, N⟩, hh, hx, hZ, hown, hby, r⟩ := X
  subst hq
  obtain ⟨T', X', e', stp⟩ := getS (host := "") X hx hZ hown w Via.refl hh F (g := mkF m pc Ls st) rfl (hb hby hd)
  exact go_by (fun _ r => stp _ r) (k T' ⟨⟨locs, X', N⟩, e', hx, hZ, hown, hby, r⟩)
theorem go_getF (X : SD p l e R s m args below meth c Z y bytes ml ret n0 T h cells slots) {O n d : String} {i : Nat} {a : Addr} {v : Value} (w : (Cond.fieldLink y.cls i O n d).before a0 Z = true) (F : Fld Z h a O n d v) (hd : decode bytes pc = .ok (.getfield i, 3)) (q : Nat) (hq : pc + 3 = q)
    (k : ∀ T', SD p l e R s m args below meth c Z y bytes ml ret n0 T' h cells slots → Go p e below E m T' q Ls (v :: st)) : Go p e below E m T pc Ls (.ref a :: st) := by
  obtain ⟨⟨locs, X, N⟩, hh, hx, hZ, hown, hby, r⟩ := X
  subst hq
  obtain ⟨T', X', e', stp⟩ := getF (host := "") X hx hZ hown (Or.inl w) Via.refl hh F (g := mkF m pc Ls (.ref a :: st)) rfl rfl (hb hby hd)
  exact go_by (fun _ r => stp _ r) (k T' ⟨⟨locs, X', N⟩, e', hx, hZ, hown, hby, r⟩)
theorem go_putF (X : SD p l e R s m args below meth c Z y bytes ml ret n0 T h cells slots) {O n d C : String} {i kk : Nat} {a : Addr} {v old : Value} {ty : FieldType} (w : (Cond.fieldLink y.cls i O n d).before a0 Z = true) (F : Fld Z h a O n d old) (Ex : Exa Z h a C) (wl : (Cond.lays C O n d).before a0 Z = true ∨ ((Cond.laysFinal C O n d).before a0 Z = true ∧ y.cls = O ∧ y.name = "<init>")) (wi : (Cond.instantiable C kk).before a0 Z = true)
    (hty : parseFieldDescriptor d = some ty) (hn : narrow ty v = v) (hf : fits ty v = true) (ha : n0 ≤ a) (hd : decode bytes pc = .ok (.putfield i, 3)) (q : Nat) (hq : pc + 3 = q)
    (k : ∀ T' h', SD p l e R s m args below meth c Z y bytes ml ret n0 T' h' cells slots → Wr h h' a (slotOf Z O n d) v → Go p e below E m T' q Ls st) : Go p e below E m T pc Ls (v :: .ref a :: st) := by
  obtain ⟨⟨locs, X, N⟩, hh, hx, hZ, hown, hby, hml, hret, hlk, hnm⟩ := X
  subst hq
  obtain ⟨T', h', X', e', W, stp⟩ := putF (host := "") X hx hZ hown (Or.inl w) Via.refl hh F Ex (wl.imp id fun q => ⟨q.1, q.2.1, hnm.trans q.2.2⟩) wi hty hn hf (g := mkF m pc Ls (v :: .ref a :: st)) rfl rfl (hb hby hd)
  exact go_by (fun _ r => stp _ r) (k T' h' ⟨⟨_, X', Fr.snoc X' N ha⟩, e', hx, hZ, hown, hby, hml, hret, hlk, hnm⟩ W)
theorem go_new (X : SD p l e R s m args below meth c Z y bytes ml ret n0 T h cells slots) {C : String} {i nf : Nat} (w : (Cond.classLink y.cls i C).before a0 Z = true) (wi : (Cond.instantiable C nf).before a0 Z = true) (wz : (Cond.initialized C).before a0 Z = true) (hd : decode bytes pc = .ok (.new i, 3)) (hc : cells + 1 ≤ R.cells) (hs : slots + nf ≤ R.slots) (q : Nat) (hq : pc + 3 = q)
    (k : ∀ T' h' a, a = h.size → SD p l e R s m args below meth c Z y bytes ml ret n0 T' h' (cells + 1) (slots + nf) → Ext h h' → Exa Z h' a C → (∀ {O nm d : String} {ty : FieldType}, Laid Z a0 C O nm d → parseFieldDescriptor d = some ty → Fld Z h' a O nm d (defaultValue ty)) → Go p e below E m T' q Ls (.ref a :: st)) : Go p e below E m T pc Ls st := by
  obtain ⟨⟨locs, X, N⟩, hh, hx, hZ, hown, hby, r⟩ := X
  subst hq
  obtain ⟨T', h', X', e', E', A', D', -, stp⟩ := newO X hx hZ hown w wi wz hh (g := mkF m pc Ls st) rfl (hb hby hd) hc hs
  exact go_by (fun _ r => stp _ r) (k T' h' _ rfl ⟨⟨locs, X', N⟩, e', hx, hZ, hown, hby, r⟩ E' A' D')
theorem go_newA (X : SD p l e R s m args below meth c Z y bytes ml ret n0 T h cells slots) {aty : ArrayType} {z : Int32} (cap : Nat) (w : (Cond.arrayClass (newarray.typeOf aty)).before a0 Z = true) (hd : decode bytes pc = .ok (.newarray aty, 2)) (hn : ¬ z < 0) (hcap : z.toNatClampNeg ≤ cap) (hb8 : cap * 8 ≤ 536870912) (hc : cells + 1 ≤ R.cells) (hs : slots + cap ≤ R.slots) (q : Nat) (hq : pc + 2 = q)
    (k : ∀ T' h' a cA, a = h.size → SD p l e R s m args below meth c Z y bytes ml ret n0 T' h' (cells + 1) (slots + cap) → Ext h h' → Arr Z h' a (newA cA (newarray.typeOf aty) z) (newarray.typeOf aty) → Go p e below E m T' q Ls (.ref a :: st)) : Go p e below E m T pc Ls (.int z :: st) := by
  obtain ⟨⟨locs, X, N⟩, hh, hx, hZ, hown, hby, r⟩ := X
  subst hq
  obtain ⟨T', h', cA, X', e', E', A', stp⟩ := newP X hx hZ w hh (g := mkF m pc Ls (.int z :: st)) rfl (hb hby hd) rfl hn hcap hb8 hc hs
  exact go_by (fun _ r => stp _ r) (k T' h' _ cA rfl ⟨⟨locs, X', N⟩, e', hx, hZ, hown, hby, r⟩ E' A')
theorem go_stJ (X : SD p l e R s m args below meth c Z y bytes ml ret n0 T h cells slots) {a : Addr} {cl : Cell} {j : Int32} {x : Int64} (A : Arr Z h a cl .long) (hj : ¬ (j < 0 ∨ cl.slots.size ≤ j.toNatClampNeg)) (ha : n0 ≤ a) (hd : decode bytes pc = .ok (.lastore, 1)) (q : Nat) (hq : pc + 1 = q)
    (k : ∀ T' h', SD p l e R s m args below meth c Z y bytes ml ret n0 T' h' cells slots → Wr h h' a j.toNatClampNeg (.long x) → Go p e below E m T' q Ls st) : Go p e below E m T pc Ls (.long x :: .int j :: .ref a :: st) := by
  obtain ⟨⟨locs, X, N⟩, hh, hx, hZ, hown, hby, r⟩ := X
  subst hq
  obtain ⟨T', h', X', e', W, stp⟩ := stJ X hx hZ hh A hj (g := mkF m pc Ls (.long x :: .int j :: .ref a :: st)) rfl rfl (hb hby hd)
  exact go_by (fun _ r => stp _ r) (k T' h' ⟨⟨_, X', Fr.snoc X' N ha⟩, e', hx, hZ, hown, hby, r⟩ W)
theorem go_stB (X : SD p l e R s m args below meth c Z y bytes ml ret n0 T h cells slots) {a : Addr} {cl : Cell} {j : Int32} {x : Int32} (A : Arr Z h a cl .byte) (hj : ¬ (j < 0 ∨ cl.slots.size ≤ j.toNatClampNeg)) (ha : n0 ≤ a) (hd : decode bytes pc = .ok (.bastore, 1)) (q : Nat) (hq : pc + 1 = q)
    (k : ∀ T' h', SD p l e R s m args below meth c Z y bytes ml ret n0 T' h' cells slots → Wr h h' a j.toNatClampNeg (.int (nar .byte x)) → Go p e below E m T' q Ls st) : Go p e below E m T pc Ls (.int x :: .int j :: .ref a :: st) := by
  obtain ⟨⟨locs, X, N⟩, hh, hx, hZ, hown, hby, r⟩ := X
  subst hq
  obtain ⟨T', h', X', e', W, stp⟩ := stB X hx hZ hh A hj (g := mkF m pc Ls (.int x :: .int j :: .ref a :: st)) rfl rfl (hb hby hd)
  exact go_by (fun _ r => stp _ r) (k T' h' ⟨⟨_, X', Fr.snoc X' N ha⟩, e', hx, hZ, hown, hby, r⟩ W)
theorem go_stC (X : SD p l e R s m args below meth c Z y bytes ml ret n0 T h cells slots) {a : Addr} {cl : Cell} {j : Int32} {x : Int32} (A : Arr Z h a cl .char) (hj : ¬ (j < 0 ∨ cl.slots.size ≤ j.toNatClampNeg)) (ha : n0 ≤ a) (hd : decode bytes pc = .ok (.castore, 1)) (q : Nat) (hq : pc + 1 = q)
    (k : ∀ T' h', SD p l e R s m args below meth c Z y bytes ml ret n0 T' h' cells slots → Wr h h' a j.toNatClampNeg (.int (nar .char x)) → Go p e below E m T' q Ls st) : Go p e below E m T pc Ls (.int x :: .int j :: .ref a :: st) := by
  obtain ⟨⟨locs, X, N⟩, hh, hx, hZ, hown, hby, r⟩ := X
  subst hq
  obtain ⟨T', h', X', e', W, stp⟩ := stC X hx hZ hh A hj (g := mkF m pc Ls (.int x :: .int j :: .ref a :: st)) rfl rfl (hb hby hd)
  exact go_by (fun _ r => stp _ r) (k T' h' ⟨⟨_, X', Fr.snoc X' N ha⟩, e', hx, hZ, hown, hby, r⟩ W)
theorem go_laload (X : SD p l e R s m args below meth c Z y bytes ml ret n0 T h cells slots) {a : Addr} {cl : Cell} {j : Int32} {v : Value} (A : Arr Z h a cl .long) (hj : ¬ (j < 0 ∨ cl.slots.size ≤ j.toNatClampNeg)) (hv : cl.slots[j.toNatClampNeg]? = some v) (hd : decode bytes pc = .ok (.laload, 1)) (q : Nat) (hq : pc + 1 = q)
    (k : Go p e below E m T q Ls (v :: st)) : Go p e below E m T pc Ls (.int j :: .ref a :: st) := by
  obtain ⟨⟨locs, X, N⟩, hh, hx, hZ, hown, hby, -⟩ := X
  subst hq
  exact go_by (fun _ r => X.laload hx (by rw [hh]; exact A.1) (State.isArrayOf_alike hZ.alike A.2.1) A.2.2 hj hv (g := mkF m pc Ls (.int j :: .ref a :: st)) rfl rfl (hb hby hd) _ r) k
theorem go_baload (X : SD p l e R s m args below meth c Z y bytes ml ret n0 T h cells slots) {a : Addr} {cl : Cell} {j : Int32} {v : Value} (A : Arr Z h a cl .byte) (hj : ¬ (j < 0 ∨ cl.slots.size ≤ j.toNatClampNeg)) (hv : cl.slots[j.toNatClampNeg]? = some v) (hd : decode bytes pc = .ok (.baload, 1)) (q : Nat) (hq : pc + 1 = q)
    (k : Go p e below E m T q Ls (v :: st)) : Go p e below E m T pc Ls (.int j :: .ref a :: st) := by
  obtain ⟨⟨locs, X, N⟩, hh, hx, hZ, hown, hby, -⟩ := X
  subst hq
  exact go_by (fun _ r => X.baloadBytes hx (by rw [hh]; exact A.1) (State.isArrayOf_alike hZ.alike A.2.1) A.2.2 hj hv (g := mkF m pc Ls (.int j :: .ref a :: st)) rfl rfl (hb hby hd) _ r) k
theorem go_caload (X : SD p l e R s m args below meth c Z y bytes ml ret n0 T h cells slots) {a : Addr} {cl : Cell} {j : Int32} {v : Value} (A : Arr Z h a cl .char) (hj : ¬ (j < 0 ∨ cl.slots.size ≤ j.toNatClampNeg)) (hv : cl.slots[j.toNatClampNeg]? = some v) (hd : decode bytes pc = .ok (.caload, 1)) (q : Nat) (hq : pc + 1 = q)
    (k : Go p e below E m T q Ls (v :: st)) : Go p e below E m T pc Ls (.int j :: .ref a :: st) := by
  obtain ⟨⟨locs, X, N⟩, hh, hx, hZ, hown, hby, -⟩ := X
  subst hq
  exact go_by (fun _ r => X.caload hx (by rw [hh]; exact A.1) (State.isArrayOf_alike hZ.alike A.2.1) A.2.2 hj hv (g := mkF m pc Ls (.int j :: .ref a :: st)) rfl rfl (hb hby hd) _ r) k
theorem go_aaload (X : SD p l e R s m args below meth c Z y bytes ml ret n0 T h cells slots) {a : Addr} {cl : Cell} {j : Int32} {v : Value} {ty : FieldType} (A : Arr Z h a cl ty) (hty : ty.isReference = true) (hj : ¬ (j < 0 ∨ cl.slots.size ≤ j.toNatClampNeg)) (hv : cl.slots[j.toNatClampNeg]? = some v) (hd : decode bytes pc = .ok (.aaload, 1)) (q : Nat) (hq : pc + 1 = q)
    (k : Go p e below E m T q Ls (v :: st)) : Go p e below E m T pc Ls (.int j :: .ref a :: st) := by
  obtain ⟨⟨locs, X, N⟩, hh, hx, hZ, hown, hby, -⟩ := X
  subst hq
  exact go_by (fun _ r => X.aaload hx (by rw [hh]; exact A.1) (State.isArrayOf_alike hZ.alike A.2.1) hty A.2.2 hj hv (g := mkF m pc Ls (.int j :: .ref a :: st)) rfl rfl (hb hby hd) _ r) k
theorem go_arrlen (X : SD p l e R s m args below meth c Z y bytes ml ret n0 T h cells slots) {a : Addr} {cl : Cell} {ty : FieldType} (z : Int32) (A : Arr Z h a cl ty) (hz : cl.slots.size.toInt32 = z) (hd : decode bytes pc = .ok (.arraylength, 1)) (q : Nat) (hq : pc + 1 = q)
    (k : Go p e below E m T q Ls (.int z :: st)) : Go p e below E m T pc Ls (.ref a :: st) := by
  obtain ⟨⟨locs, X, N⟩, hh, hx, hZ, hown, hby, -⟩ := X
  subst hq hz
  exact go_by (fun _ r => X.arraylength hx (by rw [hh]; exact A.1) (State.isArrayOf_alike hZ.alike A.2.1) (g := mkF m pc Ls (.ref a :: st)) rfl rfl (hb hby hd) _ r) k
/-! ### calls -/
theorem go_callS (X : SD p l e R s m args below meth c Z y bytes ml ret n0 T h cells slots) {y' : MethodName} {bytes' : ByteArray} {ml' i : Nat} {ret' : Option FieldType} {rm : Room} {as' : Array Value} {Q : Option Value → Heap → List Loc → Prop} (W : Nat) (argsL rest : List Value)
    (w1 : (Cond.methodLink y.cls i y').before a0 Z = true) (w2 : (Cond.static y').before a0 Z = true) (w3 : (Cond.initialized y'.cls).before a0 Z = true) (w4 : (Cond.code y' bytes' ml' ret').before a0 Z = true) (hy : y'.cls ≠ "java/lang/invoke/MethodHandle" ∧ y'.cls ≠ "java/lang/invoke/VarHandle")
    (hM : MetFree l y' (head1 [Cond.code y' bytes' ml' ret'] rm) (fun a U => a = as' ∧ Z.Warmed39 U.vm ∧ U.heap = h) (fun _ _ _ _ _ => True) (fun _ U o U' => ∃ v L, o = .returned v ∧ Q v U'.heap L ∧ FrameEnd U o U' L rm.cells rm.slots))
    (hf : rm.frames + 1 ≤ R.frames) (hl : W + (ml' + 11) + rm.locals ≤ R.locals) (hsz : Ls.size = ml) (hlen : ∀ sig, parseMethodDescriptor y'.desc = some sig → argsL.length = sig.parameters.length) (has : argsL.toArray = as') (hst : st = argsL.reverse ++ rest) (hW : (rest.map fun v => v.category).sum ≤ W) (hd : decode bytes pc = .ok (.invokestatic i, 3)) (hc : cells + rm.cells ≤ R.cells) (hs : slots + rm.slots ≤ R.slots) (q : Nat) (hq : pc + 3 = q)
    (hQ : ∀ v h' L, Q v h' L → Fr n0 L)
    (k : ∀ v T' L h', SD p l e R s m args below meth c Z y bytes ml ret n0 T' h' (cells + rm.cells) (slots + rm.slots) → Q v h' L → Go p e below E m T' q Ls (v.toList ++ rest)) : Go p e below E m T pc Ls st := by
  obtain ⟨⟨locs, X, N⟩, hh, hx, hZ, hown, hby, hml, r⟩ := X
  subst hq has
  obtain ⟨v, _, ⟨T', L', k', n'⟩, -, X', ⟨Lc, hq, l1, y1, z1⟩, stp⟩ := Jvm.LawKit.callS X hx (y := y') hown (mvT hZ w1) (mvT hZ w2) (mvT hZ w3) (mvT hZ w4) hy (backOf (W := W) hM hZ w4 w3 hf hl) (g := mkF m pc Ls st) rfl (hsz.trans hml.symm) (argsL := argsL) (rest := rest) hlen hst (by show 2 * 0 + _ ≤ _; omega) (hb hby hd) (fun _ _ => ⟨rfl, hh, hc, hs⟩)
  dsimp only [Pt.U, Pt.locs, Pt.cells, Pt.slots] at X' l1 y1 z1 stp hq
  subst l1 y1 z1
  exact go_by (fun _ r => stp _ r) (k v T' Lc _ ⟨⟨_, X', Fr.app N (hQ _ _ _ hq)⟩, rfl, hx, hZ, hown, hby, hml, r⟩ hq)
theorem go_callV (X : SD p l e R s m args below meth c Z y bytes ml ret n0 T h cells slots) {C : String} {y' z' : MethodName} {bytes' : ByteArray} {ml' i : Nat} {ret' : Option FieldType} {rm : Room} {as' : Array Value} {Q : Option Value → Heap → List Loc → Prop} {a : Addr} (W : Nat) (argsL rest : List Value)
    (w1 : (Cond.methodLink y.cls i y').before a0 Z = true) (w2 : (Cond.declares y').before a0 Z = true) (w3 : (Cond.selects C y' z').before a0 Z = true) (hyz : y'.cls = C) (w4 : (Cond.instanceMethod z').before a0 Z = true) (w5 : (Cond.initialized z'.cls).before a0 Z = true) (w6 : (Cond.code z' bytes' ml' ret').before a0 Z = true) (hy : y'.cls ≠ "java/lang/invoke/MethodHandle" ∧ y'.cls ≠ "java/lang/invoke/VarHandle")
    (Ex : Exa Z h a C) (hnf : NotFace s y')
    (hM : MetFree l z' (head1 [Cond.code z' bytes' ml' ret'] rm) (fun a U => a = as' ∧ Z.Warmed39 U.vm ∧ U.heap = h) (fun _ _ _ _ _ => True) (fun _ U o U' => ∃ v L, o = .returned v ∧ Q v U'.heap L ∧ FrameEnd U o U' L rm.cells rm.slots))
    (hf : rm.frames + 1 ≤ R.frames) (hl : W + (ml' + 11) + rm.locals ≤ R.locals) (hsz : Ls.size = ml) (hlen : ∀ sig, parseMethodDescriptor y'.desc = some sig → argsL.length = sig.parameters.length) (has : (Value.ref a :: argsL).toArray = as') (hst : st = argsL.reverse ++ .ref a :: rest) (hW : (rest.map fun v => v.category).sum ≤ W) (hd : decode bytes pc = .ok (.invokevirtual i, 3)) (hc : cells + rm.cells ≤ R.cells) (hs : slots + rm.slots ≤ R.slots) (q : Nat) (hq : pc + 3 = q)
    (hQ : ∀ v h' L, Q v h' L → Fr n0 L)
    (k : ∀ v T' L h', SD p l e R s m args below meth c Z y bytes ml ret n0 T' h' (cells + rm.cells) (slots + rm.slots) → Q v h' L → Go p e below E m T' q Ls (v.toList ++ rest)) : Go p e below E m T pc Ls st := by
  obtain ⟨⟨locs, X, N⟩, hh, hx, hZ, hown, hby, hml, r⟩ := X
  subst hq has
  obtain ⟨cq, kq, q1, q2, q3⟩ := isOf hZ hh Ex
  obtain ⟨v, _, ⟨T', L', k', n'⟩, -, X', ⟨Lc, hq, l1, y1, z1⟩, stp⟩ := X.virtualBack hx (y := y') (z := z') hown (mvT hZ w1) (mvT hZ w2) hnf (mvT hZ w3) (mvT hZ w4) hy (backOf (W := W) hM hZ w6 w5 hf hl) q1 q3 (g := mkF m pc Ls st) rfl (hsz.trans hml.symm) (Steps.refl _) (argsL := argsL) (rest := rest) hlen hst (by show 2 * 0 + _ ≤ _; omega) (hb hby hd) (fun _ _ => ⟨rfl, hh, hc, hs⟩)
  dsimp only [Pt.U, Pt.locs, Pt.cells, Pt.slots] at X' l1 y1 z1 stp hq
  subst l1 y1 z1
  exact go_by (fun _ r => stp.trans r) (k v T' Lc _ ⟨⟨_, X', Fr.app N (hQ _ _ _ hq)⟩, rfl, hx, hZ, hown, hby, hml, r⟩ hq)
/-- where the class itself declares what is selected: it is no interface -/
theorem go_callVs (X : SD p l e R s m args below meth c Z y bytes ml ret n0 T h cells slots) {y' : MethodName} {bytes' : ByteArray} {ml' i : Nat} {ret' : Option FieldType} {rm : Room} {as' : Array Value} {Q : Option Value → Heap → List Loc → Prop} {a : Addr} (W : Nat) (argsL rest : List Value)
    (w1 : (Cond.methodLink y.cls i y').before a0 Z = true) (w2 : (Cond.declares y').before a0 Z = true) (w3 : (Cond.selects y'.cls y' y').before a0 Z = true) (w4 : (Cond.instanceMethod y').before a0 Z = true) (w5 : (Cond.initialized y'.cls).before a0 Z = true) (w6 : (Cond.code y' bytes' ml' ret').before a0 Z = true) (hy : y'.cls ≠ "java/lang/invoke/MethodHandle" ∧ y'.cls ≠ "java/lang/invoke/VarHandle")
    (Ex : Exa Z h a y'.cls)
    (hM : MetFree l y' (head1 [Cond.code y' bytes' ml' ret'] rm) (fun a U => a = as' ∧ Z.Warmed39 U.vm ∧ U.heap = h) (fun _ _ _ _ _ => True) (fun _ U o U' => ∃ v L, o = .returned v ∧ Q v U'.heap L ∧ FrameEnd U o U' L rm.cells rm.slots))
    (hf : rm.frames + 1 ≤ R.frames) (hl : W + (ml' + 11) + rm.locals ≤ R.locals) (hsz : Ls.size = ml) (hlen : ∀ sig, parseMethodDescriptor y'.desc = some sig → argsL.length = sig.parameters.length) (has : (Value.ref a :: argsL).toArray = as') (hst : st = argsL.reverse ++ .ref a :: rest) (hW : (rest.map fun v => v.category).sum ≤ W) (hd : decode bytes pc = .ok (.invokevirtual i, 3)) (hc : cells + rm.cells ≤ R.cells) (hs : slots + rm.slots ≤ R.slots) (q : Nat) (hq : pc + 3 = q)
    (hQ : ∀ v h' L, Q v h' L → Fr n0 L)
    (k : ∀ v T' L h', SD p l e R s m args below meth c Z y bytes ml ret n0 T' h' (cells + rm.cells) (slots + rm.slots) → Q v h' L → Go p e below E m T' q Ls (v.toList ++ rest)) : Go p e below E m T pc Ls st :=
  go_callV X W argsL rest w1 w2 w3 rfl w4 w5 w6 hy Ex (notFace_of_selects (args := #[]) (mvT X.2.2.2.1 w3)) hM hf hl hsz hlen has hst hW hd hc hs q hq hQ k
theorem go_callUp (X : SD p l e R s m args below meth c Z y bytes ml ret n0 T h cells slots) {C owner : String} {x' y' : MethodName} {bytes' : ByteArray} {ml' i : Nat} {ret' : Option FieldType} {rm : Room} {as' : Array Value} {Q : Option Value → Heap → List Loc → Prop} {a : Addr} (W : Nat) (argsL rest : List Value)
    (w1 : (Cond.methodLink y.cls i x').before a0 Z = true) (w2 : (Cond.sameMethod x'.cls owner x'.name x'.desc).before a0 Z = true) (w2b : (Cond.declares ⟨owner, x'.name, x'.desc⟩).before a0 Z = true) (w3 : (Cond.selects C x' y').before a0 Z = true) (w4 : (Cond.instanceMethod y').before a0 Z = true) (w5 : (Cond.initialized y'.cls).before a0 Z = true) (w6 : (Cond.code y' bytes' ml' ret').before a0 Z = true) (hy : owner ≠ "java/lang/invoke/MethodHandle" ∧ owner ≠ "java/lang/invoke/VarHandle")
    (Ex : Exa Z h a C)
    (hM : MetFree l y' (head1 [Cond.code y' bytes' ml' ret'] rm) (fun a U => a = as' ∧ Z.Warmed39 U.vm ∧ U.heap = h) (fun _ _ _ _ _ => True) (fun _ U o U' => ∃ v L, o = .returned v ∧ Q v U'.heap L ∧ FrameEnd U o U' L rm.cells rm.slots))
    (hf : rm.frames + 1 ≤ R.frames) (hl : W + (ml' + 11) + rm.locals ≤ R.locals) (hsz : Ls.size = ml) (hlen : ∀ sig, parseMethodDescriptor x'.desc = some sig → argsL.length = sig.parameters.length) (has : (Value.ref a :: argsL).toArray = as') (hst : st = argsL.reverse ++ .ref a :: rest) (hW : (rest.map fun v => v.category).sum ≤ W) (hd : decode bytes pc = .ok (.invokevirtual i, 3)) (hc : cells + rm.cells ≤ R.cells) (hs : slots + rm.slots ≤ R.slots) (q : Nat) (hq : pc + 3 = q)
    (hQ : ∀ v h' L, Q v h' L → Fr n0 L)
    (k : ∀ v T' L h', SD p l e R s m args below meth c Z y bytes ml ret n0 T' h' (cells + rm.cells) (slots + rm.slots) → Q v h' L → Go p e below E m T' q Ls (v.toList ++ rest)) : Go p e below E m T pc Ls st := by
  obtain ⟨⟨locs, X, N⟩, hh, hx, hZ, hown, hby, hml, r⟩ := X
  subst hq has
  obtain ⟨cq, kq, q1, q2, q3⟩ := isOf hZ hh Ex
  obtain ⟨v, _, ⟨T', L', k', n'⟩, -, X', ⟨Lc, hq, l1, y1, z1⟩, stp⟩ := X.virtualBackUp hx (x := x') (y := y') (owner := owner) hown (mvT hZ w1) (mvT hZ w2) (mvT hZ w2b) hy (mvT hZ w3) (mvT hZ w4) (backOf (W := W) hM hZ w6 w5 hf hl) q1 q3 (g := mkF m pc Ls st) rfl (hsz.trans hml.symm) (Steps.refl _) (argsL := argsL) (rest := rest) hlen hst (by show 2 * 0 + _ ≤ _; omega) (hb hby hd) (fun _ _ => ⟨rfl, hh, hc, hs⟩)
  dsimp only [Pt.U, Pt.locs, Pt.cells, Pt.slots] at X' l1 y1 z1 stp hq
  subst l1 y1 z1
  exact go_by (fun _ r => stp.trans r) (k v T' Lc _ ⟨⟨_, X', Fr.app N (hQ _ _ _ hq)⟩, rfl, hx, hZ, hown, hby, hml, r⟩ hq)
theorem go_callI (X : SD p l e R s m args below meth c Z y bytes ml ret n0 T h cells slots) {y' : MethodName} {bytes' : ByteArray} {ml' i : Nat} {rm : Room} {as' : Array Value} {Q : Option Value → Heap → List Loc → Prop} {a : Addr} (W : Nat) (argsL rest : List Value) (hy1 : y'.name = "<init>")
    (w1 : (Cond.methodLink y.cls i y').before a0 Z = true) (w2 : (Cond.instanceMethod y').before a0 Z = true) (w3 : (Cond.initialized y'.cls).before a0 Z = true) (w4 : (Cond.code y' bytes' ml' none).before a0 Z = true) (hy : y'.cls ≠ "java/lang/invoke/MethodHandle" ∧ y'.cls ≠ "java/lang/invoke/VarHandle")
    (hM : MetFree l y' (head1 [Cond.code y' bytes' ml' none] rm) (fun a U => a = as' ∧ Z.Warmed39 U.vm ∧ U.heap = h) (fun _ _ _ _ _ => True) (fun _ U o U' => ∃ v L, o = .returned v ∧ Q v U'.heap L ∧ FrameEnd U o U' L rm.cells rm.slots))
    (hf : rm.frames + 1 ≤ R.frames) (hl : W + (ml' + 11) + rm.locals ≤ R.locals) (hsz : Ls.size = ml) (hlen : ∀ sig, parseMethodDescriptor y'.desc = some sig → argsL.length = sig.parameters.length) (has : (Value.ref a :: argsL).toArray = as') (hst : st = argsL.reverse ++ .ref a :: rest) (hW : (rest.map fun v => v.category).sum ≤ W) (hd : decode bytes pc = .ok (.invokespecial i, 3)) (hc : cells + rm.cells ≤ R.cells) (hs : slots + rm.slots ≤ R.slots) (q : Nat) (hq : pc + 3 = q)
    (hQ : ∀ v h' L, Q v h' L → Fr n0 L)
    (k : ∀ v T' L h', SD p l e R s m args below meth c Z y bytes ml ret n0 T' h' (cells + rm.cells) (slots + rm.slots) → Q v h' L → Go p e below E m T' q Ls (v.toList ++ rest)) : Go p e below E m T pc Ls st := by
  obtain ⟨⟨locs, X, N⟩, hh, hx, hZ, hown, hby, hml, r⟩ := X
  subst hq has
  obtain ⟨v, _, ⟨T', L', k', n'⟩, -, X', ⟨Lc, hq, l1, y1, z1⟩, stp⟩ := X.specialBack hx (y := y') hy1 hown (mvT hZ w1) (mvT hZ w2) (mvT hZ w4) hy (backOf (W := W) hM hZ w4 w3 hf hl) (g := mkF m pc Ls st) rfl (hsz.trans hml.symm) (Steps.refl _) (a := a) (argsL := argsL) (rest := rest) hlen hst (by show 2 * 0 + _ ≤ _; omega) (hb hby hd) (fun _ _ => ⟨rfl, hh, hc, hs⟩)
  dsimp only [Pt.U, Pt.locs, Pt.cells, Pt.slots] at X' l1 y1 z1 stp hq
  subst l1 y1 z1
  exact go_by (fun _ r => stp.trans r) (k v T' Lc _ ⟨⟨_, X', Fr.app N (hQ _ _ _ hq)⟩, rfl, hx, hZ, hown, hby, hml, r⟩ hq)
/-- what a callee leaves that writes nothing -/
def PQ (r : Option Value) (h0 : Heap) (n0 : Nat) (v : Option Value) (h : Heap) (L : List Loc) : Prop := v = r ∧ Fr n0 L ∧ h = h0
theorem PQ.fr {r : Option Value} {h0 : Heap} : ∀ v h' L, PQ r h0 n0 v h' L → Fr n0 L := fun _ _ _ q => q.2.1
theorem PQ.k {r : Option Value} {cells' slots' : Nat} {q : Nat} (k : ∀ T', SD p l e R s m args below meth c Z y bytes ml ret n0 T' h cells' slots' → Go p e below E m T' q Ls (r.toList ++ rest)) : ∀ v T' L h', SD p l e R s m args below meth c Z y bytes ml ret n0 T' h' cells' slots' → PQ r h n0 v h' L → Go p e below E m T' q Ls (v.toList ++ rest) := fun v T' L h' X' hq => by
  obtain ⟨rfl, -, rfl⟩ := hq
  exact k T' X'
/-! ### from the case's words -/
theorem own_exa {t : Term} {C : String} (q : (Cond.exactly t C).value args s none s [] = some true) : ∃ a, t.eval args s none [] s = some (.ref a) ∧ Exa s s.heap a C := by
  obtain ⟨a, ev⟩ := exa_v q
  exact ⟨a, ev, Exa.start ev q⟩
theorem own_sta {C n d : String} {v : Value} (ev : (Term.static C n d).eval args s none [] s = some v) (w1 : (Cond.initialized C).before args s = true) (w2 : (Cond.laysStatic C n d).before args s = true) : Sta s s.heap C n d v := Sta.start ev (Or.inr ⟨w1, w2⟩)
theorem own_eqI {t : Term} {k : Int32} (q : (Cond.eq t (Term.int k)).value args s none s [] = some true) : t.eval args s none [] s = some (.int k) := by
  obtain ⟨x, z, h1, h2, -, h4⟩ := cmp_v (Or.inl q)
  have e2 : z = .int k := (Option.some.inj h2).symm
  subst e2
  obtain ⟨w, rfl⟩ : ∃ w, x = .int w := h4
  have q' := q
  simp only [Cond.value, h1, h2] at q'
  simp at q'
  rw [h1, q']
theorem own_fldI {t : Term} {C n d : String} {a : Addr} {k : Int32} (ev : t.eval args s none [] s = some (.ref a)) (q : (Cond.eq (Term.field t C n d) (Term.int k)).value args s none s [] = some true) : Fld s s.heap a C n d (.int k) := by
  have h1 := own_eqI q
  rw [fld_at ev] at h1
  exact Fld.start h1
theorem own_fldne {C n d : String} {a b : Addr} {j k : Int32} (F : Fld Z h a C n d (.int j)) (G : Fld Z h b C n d (.int k)) (q : j ≠ k) : a ≠ b := Fld.ne F G (fun z => q (Value.int.inj z))
theorem own_mod {x k : Int32} {n : Int} (hk : k.toInt = n) (hn : 0 < n) : 0 ≤ ((x &&& 2147483647) % k).toInt ∧ ((x &&& 2147483647) % k).toInt < n := by
  have h1 : (x &&& 2147483647).toInt = x.toInt % 2 ^ 31 := Jvm.Kit.i32_mask x 2147483647 (by decide) (by decide)
  have h2 : 0 ≤ (x &&& 2147483647).toInt := by rw [h1]; omega
  rw [Jvm.Kit.i32_rem_nonneg h2, hk]
  exact ⟨Int.emod_nonneg _ (by omega), Int.emod_lt_of_pos _ hn⟩
theorem own_lit {z k : Int32} {n : Int} (h : z.toInt = n) (hk : k.toInt = n) : z = k := Int32.toInt_inj.mp (h.trans hk.symm)
theorem own_len {t : Term} {a : Addr} {cl : Cell} {ty : FieldType} {k : Int32} (ev : t.eval args s none [] s = some (.ref a)) (A : Arr s s.heap a cl ty) (q : (Cond.eq (Term.length t) (Term.int k)).value args s none s [] = some true) : cl.slots.size.toInt32 = k := by
  have h1 := own_eqI q
  have h2 := A.fin (Vm.Alike.refl _)
  obtain ⟨a', cell, e1, e2, e3⟩ := Term.length_spec h1
  cases ev.symm.trans e1
  cases h2.symm.trans e2
  exact (Value.int.inj e3).symm
theorem own_elem {t u : Term} {a b : Addr} {cl : Cell} {ty : FieldType} {j : Int32} (ev : t.eval args s none [] s = some (.ref a)) (ev' : u.eval args s none [] s = some (.ref b)) (A : Arr s s.heap a cl ty) (q : (Cond.eq (Term.elem t (Term.int j)) u).value args s none s [] = some true) : ¬ (j < 0 ∨ cl.slots.size ≤ j.toNatClampNeg) ∧ cl.slots[j.toNatClampNeg]? = some (.ref b) := by
  obtain ⟨x, z, h1, h2, h3, h4⟩ := cmp_v (Or.inl q)
  cases h2.symm.trans ev'
  have hr : x.isRef = true := h4.2
  have e := gotT (eq_R h1 ev' hr rfl) q
  subst e
  exact elem_in h1 ev rfl A.1
/-- every place of the cell holds an int -/
def ICell (c : Cell) : Prop := ∀ i, i < c.slots.size → ∃ x, c.slots[i]? = some (.int x)
theorem ICell.new {cA : ClassId} {ty : FieldType} {n : Int32} (ht : ∃ x, defaultValue ty = .int x) : ICell (newA cA ty n) := by
  obtain ⟨x, hx⟩ := ht
  intro i hi
  refine ⟨x, ?_⟩
  rw [sz_new] at hi
  simp [newA, hx, hi]
theorem ICell.set {cl : Cell} {j : Nat} {x : Int32} (I : ICell cl) : ICell (cl.setSlot j (.int x)) := by
  intro i hi
  rw [sz_set] at hi
  obtain ⟨y, hy⟩ := I i hi
  by_cases e : j = i
  · subst e
    exact ⟨x, by simp [Cell.setSlot, hi]⟩
  · exact ⟨y, by simp only [Cell.setSlot]; rw [Array.getElem?_setIfInBounds_ne e]; exact hy⟩
theorem own_extwr {h0 h' : Heap} {a : Addr} {sl : Nat} {v : Value} (Ex : Ext h0 h) (W : Wr h h' a sl v) (q : h0.size ≤ a) : Ext h0 h' := by
  refine ⟨Nat.le_trans Ex.1 (Nat.le_of_eq W.size.symm), fun b c hb => ?_⟩
  obtain ⟨c', e1, -, -, -, e5, -⟩ := wr_at W (Ex.2 b c hb)
  rw [← e5 (fun z => Nat.lt_irrefl _ (Nat.lt_of_lt_of_le (Array.getElem?_eq_some_iff.mp hb).1 (z ▸ q)))]
  exact e1
theorem own_ext0 (h : Heap) : Ext h h := ⟨Nat.le_refl _, fun _ _ q => q⟩
theorem own_exttr {h1 h2 h3 : Heap} (A : Ext h1 h2) (B : Ext h2 h3) : Ext h1 h3 := ⟨Nat.le_trans A.1 B.1, fun a c q => B.2 a c (A.2 a c q)⟩
theorem own_in {cl : Cell} {n : Nat} {j : Int32} (z : cl.slots.size = n) (h1 : ¬ j < 0) (h2 : j.toNatClampNeg < n) : ¬ (j < 0 ∨ cl.slots.size ≤ j.toNatClampNeg) := fun q => q.elim h1 (fun r => by rw [z] at r; omega)
theorem own_in2 {cl : Cell} {n : Nat} {j : Int32} (z : cl.slots.size = n) (h0 : 0 ≤ j.toInt) (h1 : j.toInt < n) : ¬ (j < 0 ∨ cl.slots.size ≤ j.toNatClampNeg) := by
  refine own_in z (fun q => ?_) ?_
  · rw [Int32.lt_iff_toInt_lt] at q
    have e : (0 : Int32).toInt = 0 := rfl
    omega
  · show j.toInt.toNat < n
    omega
/-- what a callee leaves that writes one field of its object -/
def WQ (Z : State) (r : Option Value) (h0 : Heap) (n0 : Nat) (q : Addr) (C n d : String) (w : Value) (v : Option Value) (h : Heap) (L : List Loc) : Prop := v = r ∧ Fr n0 L ∧ Keep h0 h [q] ∧ Fld Z h q C n d w
theorem WQ.fr {r : Option Value} {h0 : Heap} {q : Addr} {C n d : String} {w : Value} : ∀ v h' L, WQ Z r h0 n0 q C n d w v h' L → Fr n0 L := fun _ _ _ z => z.2.1
/-- a private method by invokevirtual -/
theorem go_callP (X : SD p l e R s m args below meth c Z y bytes ml ret n0 T h cells slots) {y' : MethodName} {bytes' : ByteArray} {ml' i kk : Nat} {ret' : Option FieldType} {rm : Room} {as' : Array Value} {Q : Option Value → Heap → List Loc → Prop} {a : Addr} (W : Nat) (argsL rest : List Value)
    (w1 : (Cond.methodLink y.cls i y').before a0 Z = true) (w2 : (Cond.instanceMethod y').before a0 Z = true) (wp : (Cond.privateMethod y').before a0 Z = true) (wi : (Cond.instantiable y'.cls kk).before a0 Z = true) (w3 : (Cond.initialized y'.cls).before a0 Z = true) (w4 : (Cond.code y' bytes' ml' ret').before a0 Z = true) (hy : y'.cls ≠ "java/lang/invoke/MethodHandle" ∧ y'.cls ≠ "java/lang/invoke/VarHandle")
    (Ex : Exa Z h a y'.cls)
    (hM : MetFree l y' (head1 [Cond.code y' bytes' ml' ret'] rm) (fun a U => a = as' ∧ Z.Warmed39 U.vm ∧ U.heap = h) (fun _ _ _ _ _ => True) (fun _ U o U' => ∃ v L, o = .returned v ∧ Q v U'.heap L ∧ FrameEnd U o U' L rm.cells rm.slots))
    (hf : rm.frames + 1 ≤ R.frames) (hl : W + (ml' + 11) + rm.locals ≤ R.locals) (hsz : Ls.size = ml) (hlen : ∀ sig, parseMethodDescriptor y'.desc = some sig → argsL.length = sig.parameters.length) (has : (Value.ref a :: argsL).toArray = as') (hst : st = argsL.reverse ++ .ref a :: rest) (hW : (rest.map fun v => v.category).sum ≤ W) (hd : decode bytes pc = .ok (.invokevirtual i, 3)) (hc : cells + rm.cells ≤ R.cells) (hs : slots + rm.slots ≤ R.slots) (q : Nat) (hq : pc + 3 = q)
    (hQ : ∀ v h' L, Q v h' L → Fr n0 L)
    (k : ∀ v T' L h', SD p l e R s m args below meth c Z y bytes ml ret n0 T' h' (cells + rm.cells) (slots + rm.slots) → Q v h' L → Go p e below E m T' q Ls (v.toList ++ rest)) : Go p e below E m T pc Ls st := by
  obtain ⟨⟨locs, X, N⟩, hh, hx, hZ, hown, hby, hml, r⟩ := X
  subst hq has
  obtain ⟨cell, hcell, hobj⟩ := Ex.cell
  have hpriv : s.PrivateAt y' := Cond.privateMethod_at (mvP hZ wp (args := #[]))
  obtain ⟨cI, kI, i1, i2, -, i4, -⟩ := Cond.instantiable_spec (mvT (args := args) hZ wi)
  have hni : kI.isInterface = false := by
    cases hb2 : kI.isInterface
    · rfl
    · rw [hb2] at i4; cases i4
  have hsel : (Cond.selects y'.cls y' y').before args s = true := selects_self_of_private i1 i2 hni hpriv (mvT hZ w2) hy
  obtain ⟨v, _, ⟨T', L', k', n'⟩, -, X', ⟨Lc, hq, l1, y1, z1⟩, stp⟩ := X.privateBack hx (y := y') hown (mvT hZ w1) (mvT hZ w2) hsel hpriv (mvT hZ w4) hy (backOf (W := W) hM hZ w4 w3 hf hl) (g := mkF m pc Ls st) rfl (hsz.trans hml.symm) (Steps.refl _) (a := a) (cell := cell) (by rw [hh]; exact hcell) hobj (argsL := argsL) (rest := rest) hlen hst (by show 2 * 0 + _ ≤ _; omega) (hb hby hd) (fun _ _ => ⟨rfl, hh, hc, hs⟩)
  dsimp only [Pt.U, Pt.locs, Pt.cells, Pt.slots] at X' l1 y1 z1 stp hq
  subst l1 y1 z1
  exact go_by (fun _ r => stp.trans r) (k v T' Lc _ ⟨⟨_, X', Fr.app N (hQ _ _ _ hq)⟩, rfl, hx, hZ, hown, hby, hml, r⟩ hq)
theorem own_eqL {t : Term} {k : Int64} (q : (Cond.eq t (Term.long k)).value args s none s [] = some true) : t.eval args s none [] s = some (.long k) := by
  obtain ⟨x, z, h1, h2, -, h4⟩ := cmp_v (Or.inl q)
  have e2 : z = .long k := (Option.some.inj h2).symm
  subst e2
  obtain ⟨w, rfl⟩ : ∃ w, x = .long w := h4
  have e := gotT (eq_L h1 h2) q
  rw [h1, e]
/-! ### arrays by a function of the place -/
def AA (Z : State) (h : Heap) (a : Addr) (ty : FieldType) (n : Nat) (f : Nat → Value) : Prop := ∃ cl : Cell, Arr Z h a cl ty ∧ cl.slots.size = n ∧ ∀ i, i < n → cl.slots[i]? = some (f i)
theorem AA.ext {h' : Heap} {a : Addr} {ty : FieldType} {n : Nat} {f : Nat → Value} (A : AA Z h a ty n f) (Ex : Ext h h') : AA Z h' a ty n f := by
  obtain ⟨cl, A, r⟩ := A
  exact ⟨cl, A.ext Ex, r⟩
theorem AA.keep {h' : Heap} {a : Addr} {ty : FieldType} {n : Nat} {f : Nat → Value} {ws : List Addr} (A : AA Z h a ty n f) (K : Keep h h' ws) (q : a ∉ ws) : AA Z h' a ty n f := by
  obtain ⟨cl, A, r⟩ := A
  exact ⟨cl, ⟨K.2.1 a cl A.1 q, A.2⟩, r⟩
theorem AA.other {h' : Heap} {a b : Addr} {ty : FieldType} {n sl : Nat} {f : Nat → Value} {v : Value} (A : AA Z h a ty n f) (W : Wr h h' b sl v) (q : a ≠ b) : AA Z h' a ty n f := by
  obtain ⟨cl, A, r⟩ := A
  exact ⟨cl, A.other W q, r⟩
theorem AA.lt {a : Addr} {ty : FieldType} {n : Nat} {f : Nat → Value} (A : AA Z h a ty n f) : a < h.size := by
  obtain ⟨cl, A, -⟩ := A
  exact A.lt
theorem AA.fn {a : Addr} {ty : FieldType} {n : Nat} {f g : Nat → Value} (A : AA Z h a ty n f) (q : ∀ i, i < n → f i = g i) : AA Z h a ty n g := by
  obtain ⟨cl, A, hs, r⟩ := A
  exact ⟨cl, A, hs, fun i hi => by rw [← q i hi]; exact r i hi⟩
theorem AA.new {a : Addr} {cA : ClassId} {ty : FieldType} {z : Int32} {n : Nat} (A : Arr Z h a (newA cA ty z) ty) (hz : z.toNatClampNeg = n) : AA Z h a ty n (fun _ => defaultValue ty) := by
  refine ⟨_, A, (sz_new _ _ _).trans hz, fun i hi => ?_⟩
  simp [newA, hz, hi]
theorem clamp_of {j : Int32} (h0 : 0 ≤ j.toInt) : ¬ j < 0 ∧ j.toNatClampNeg = j.toInt.toNat := by
  refine ⟨fun q => ?_, rfl⟩
  rw [Int32.lt_iff_toInt_lt] at q
  have e : (0 : Int32).toInt = 0 := rfl
  omega
theorem AA.set {h' : Heap} {a : Addr} {cl : Cell} {ty : FieldType} {n : Nat} {f : Nat → Value} {j : Nat} {v : Value} (A : Arr Z h a cl ty) (hs : cl.slots.size = n) (r : ∀ i, i < n → cl.slots[i]? = some (f i)) (W : Wr h h' a j v) (hj : j < n) : AA Z h' a ty n (fun i => if i = j then v else f i) := by
  refine ⟨_, A.same W, (sz_set _ _ _).trans hs, fun i hi => ?_⟩
  by_cases e : i = j
  · subst e
    simp [Cell.setSlot, hs, hi]
  · simp only [Cell.setSlot]
    rw [Array.getElem?_setIfInBounds_ne (Ne.symm e), r i hi]
    simp [e]
theorem go_setB (X : SD p l e R s m args below meth c Z y bytes ml ret n0 T h cells slots) {a : Addr} {n : Nat} {f : Nat → Value} {j x : Int32} (A : AA Z h a .byte n f) (hj0 : 0 ≤ j.toInt) (hj1 : j.toInt < n) (ha : n0 ≤ a) (hd : decode bytes pc = .ok (.bastore, 1)) (q : Nat) (hq : pc + 1 = q)
    (k : ∀ T' h', SD p l e R s m args below meth c Z y bytes ml ret n0 T' h' cells slots → Keep h h' [a] → AA Z h' a .byte n (fun i => if i = j.toInt.toNat then .int (nar .byte x) else f i) → Go p e below E m T' q Ls st) : Go p e below E m T pc Ls (.int x :: .int j :: .ref a :: st) := by
  obtain ⟨cl, A, hs, r⟩ := A
  exact go_stB X A (own_in2 hs hj0 hj1) ha hd q hq (fun T' h' X' W => k T' h' X' (Keep.of_wr W) (AA.set A hs r W (by show j.toInt.toNat < n; omega)))
theorem go_setJ (X : SD p l e R s m args below meth c Z y bytes ml ret n0 T h cells slots) {a : Addr} {n : Nat} {f : Nat → Value} {j : Int32} {x : Int64} (A : AA Z h a .long n f) (hj0 : 0 ≤ j.toInt) (hj1 : j.toInt < n) (ha : n0 ≤ a) (hd : decode bytes pc = .ok (.lastore, 1)) (q : Nat) (hq : pc + 1 = q)
    (k : ∀ T' h', SD p l e R s m args below meth c Z y bytes ml ret n0 T' h' cells slots → Wr h h' a j.toInt.toNat (.long x) → AA Z h' a .long n (fun i => if i = j.toInt.toNat then .long x else f i) → Go p e below E m T' q Ls st) : Go p e below E m T pc Ls (.long x :: .int j :: .ref a :: st) := by
  obtain ⟨cl, A, hs, r⟩ := A
  exact go_stJ X A (own_in2 hs hj0 hj1) ha hd q hq (fun T' h' X' W => k T' h' X' W (AA.set A hs r W (by show j.toInt.toNat < n; omega)))
theorem go_getJ (X : SD p l e R s m args below meth c Z y bytes ml ret n0 T h cells slots) {a : Addr} {n : Nat} {f : Nat → Value} {j : Int32} {v : Value} (A : AA Z h a .long n f) (hj0 : 0 ≤ j.toInt) (hj1 : j.toInt < n) (hv : f j.toInt.toNat = v) (hd : decode bytes pc = .ok (.laload, 1)) (q : Nat) (hq : pc + 1 = q)
    (k : Go p e below E m T q Ls (v :: st)) : Go p e below E m T pc Ls (.int j :: .ref a :: st) := by
  obtain ⟨cl, A, hs, r⟩ := A
  exact go_laload X A (own_in2 hs hj0 hj1) (by rw [← hv]; exact r _ (by show j.toInt.toNat < n; omega)) hd q hq k
theorem go_getB (X : SD p l e R s m args below meth c Z y bytes ml ret n0 T h cells slots) {a : Addr} {n : Nat} {f : Nat → Value} {j : Int32} {v : Value} (A : AA Z h a .byte n f) (hj0 : 0 ≤ j.toInt) (hj1 : j.toInt < n) (hv : f j.toInt.toNat = v) (hd : decode bytes pc = .ok (.baload, 1)) (q : Nat) (hq : pc + 1 = q)
    (k : Go p e below E m T q Ls (v :: st)) : Go p e below E m T pc Ls (.int j :: .ref a :: st) := by
  obtain ⟨cl, A, hs, r⟩ := A
  exact go_baload X A (own_in2 hs hj0 hj1) (by rw [← hv]; exact r _ (by show j.toInt.toNat < n; omega)) hd q hq k
end OwnKit
end Jvm.RoadKit
namespace Jvm.Pilot.@@N@@
open Jvm Jvm.ClassFile Sem Op Lib Jvm.Free Jvm.Stand Jvm.LawKit Jvm.RoadKit Bundle Jvm.Pilot.@@N@@.Jvm.D
theorem d1_0 : decode method_3_code 0 = .ok (.lload_n 0, 1) := by decide +kernel
theorem d1_1 : decode method_3_code 1 = .ok (.aload_n 2, 1) := by decide +kernel
theorem d1_2 : decode method_3_code 2 = .ok (.iload_n 3, 1) := by decide +kernel
theorem d1_3 : decode method_3_code 3 = .ok (.laload, 1) := by decide +kernel
theorem d1_4 : decode method_3_code 4 = .ok (.lcmp, 1) := by decide +kernel
theorem d1_5 : decode method_3_code 5 = .ok (.ifCond .lt 7, 3) := by decide +kernel
theorem d1_8 : decode method_3_code 8 = .ok (.iconst 1, 1) := by decide +kernel
theorem d1_9 : decode method_3_code 9 = .ok (.goto 4, 3) := by decide +kernel
theorem d1_12 : decode method_3_code 12 = .ok (.iconst 0, 1) := by decide +kernel
theorem d1_13 : decode method_3_code 13 = .ok (.ireturn, 1) := by decide +kernel
theorem d2_0 : decode method_4_code 0 = .ok (.iconst 1, 1) := by decide +kernel
theorem d2_1 : decode method_4_code 1 = .ok (.lload_n 0, 1) := by decide +kernel
theorem d2_2 : decode method_4_code 2 = .ok (.aload_n 2, 1) := by decide +kernel
theorem d2_3 : decode method_4_code 3 = .ok (.iconst 1, 1) := by decide +kernel
theorem d2_4 : decode method_4_code 4 = .ok (.invokestatic 70, 3) := by decide +kernel
theorem d2_7 : decode method_4_code 7 = .ok (.iadd, 1) := by decide +kernel
theorem d2_8 : decode method_4_code 8 = .ok (.lload_n 0, 1) := by decide +kernel
theorem d2_9 : decode method_4_code 9 = .ok (.aload_n 2, 1) := by decide +kernel
theorem d2_10 : decode method_4_code 10 = .ok (.iconst 2, 1) := by decide +kernel
theorem d2_11 : decode method_4_code 11 = .ok (.invokestatic 70, 3) := by decide +kernel
theorem d2_14 : decode method_4_code 14 = .ok (.iadd, 1) := by decide +kernel
theorem d2_15 : decode method_4_code 15 = .ok (.lload_n 0, 1) := by decide +kernel
theorem d2_16 : decode method_4_code 16 = .ok (.aload_n 2, 1) := by decide +kernel
theorem d2_17 : decode method_4_code 17 = .ok (.iconst 3, 1) := by decide +kernel
theorem d2_18 : decode method_4_code 18 = .ok (.invokestatic 70, 3) := by decide +kernel
theorem d2_21 : decode method_4_code 21 = .ok (.iadd, 1) := by decide +kernel
theorem d2_22 : decode method_4_code 22 = .ok (.lload_n 0, 1) := by decide +kernel
theorem d2_23 : decode method_4_code 23 = .ok (.aload_n 2, 1) := by decide +kernel
theorem d2_24 : decode method_4_code 24 = .ok (.iconst 4, 1) := by decide +kernel
theorem d2_25 : decode method_4_code 25 = .ok (.invokestatic 70, 3) := by decide +kernel
theorem d2_28 : decode method_4_code 28 = .ok (.iadd, 1) := by decide +kernel
theorem d2_29 : decode method_4_code 29 = .ok (.lload_n 0, 1) := by decide +kernel
theorem d2_30 : decode method_4_code 30 = .ok (.aload_n 2, 1) := by decide +kernel
theorem d2_31 : decode method_4_code 31 = .ok (.iconst 5, 1) := by decide +kernel
theorem d2_32 : decode method_4_code 32 = .ok (.invokestatic 70, 3) := by decide +kernel
theorem d2_35 : decode method_4_code 35 = .ok (.iadd, 1) := by decide +kernel
theorem d2_36 : decode method_4_code 36 = .ok (.lload_n 0, 1) := by decide +kernel
theorem d2_37 : decode method_4_code 37 = .ok (.aload_n 2, 1) := by decide +kernel
theorem d2_38 : decode method_4_code 38 = .ok (.bipush 6, 2) := by decide +kernel
theorem d2_40 : decode method_4_code 40 = .ok (.invokestatic 70, 3) := by decide +kernel
theorem d2_43 : decode method_4_code 43 = .ok (.iadd, 1) := by decide +kernel
theorem d2_44 : decode method_4_code 44 = .ok (.lload_n 0, 1) := by decide +kernel
theorem d2_45 : decode method_4_code 45 = .ok (.aload_n 2, 1) := by decide +kernel
theorem d2_46 : decode method_4_code 46 = .ok (.bipush 7, 2) := by decide +kernel
theorem d2_48 : decode method_4_code 48 = .ok (.invokestatic 70, 3) := by decide +kernel
theorem d2_51 : decode method_4_code 51 = .ok (.iadd, 1) := by decide +kernel
theorem d2_52 : decode method_4_code 52 = .ok (.lload_n 0, 1) := by decide +kernel
theorem d2_53 : decode method_4_code 53 = .ok (.aload_n 2, 1) := by decide +kernel
theorem d2_54 : decode method_4_code 54 = .ok (.bipush 8, 2) := by decide +kernel
theorem d2_56 : decode method_4_code 56 = .ok (.invokestatic 70, 3) := by decide +kernel
theorem d2_59 : decode method_4_code 59 = .ok (.iadd, 1) := by decide +kernel
theorem d2_60 : decode method_4_code 60 = .ok (.lload_n 0, 1) := by decide +kernel
theorem d2_61 : decode method_4_code 61 = .ok (.aload_n 2, 1) := by decide +kernel
theorem d2_62 : decode method_4_code 62 = .ok (.bipush 9, 2) := by decide +kernel
theorem d2_64 : decode method_4_code 64 = .ok (.invokestatic 70, 3) := by decide +kernel
theorem d2_67 : decode method_4_code 67 = .ok (.iadd, 1) := by decide +kernel
theorem d2_68 : decode method_4_code 68 = .ok (.lload_n 0, 1) := by decide +kernel
theorem d2_69 : decode method_4_code 69 = .ok (.aload_n 2, 1) := by decide +kernel
theorem d2_70 : decode method_4_code 70 = .ok (.bipush 10, 2) := by decide +kernel
theorem d2_72 : decode method_4_code 72 = .ok (.invokestatic 70, 3) := by decide +kernel
theorem d2_75 : decode method_4_code 75 = .ok (.iadd, 1) := by decide +kernel
theorem d2_76 : decode method_4_code 76 = .ok (.lload_n 0, 1) := by decide +kernel
theorem d2_77 : decode method_4_code 77 = .ok (.aload_n 2, 1) := by decide +kernel
theorem d2_78 : decode method_4_code 78 = .ok (.bipush 11, 2) := by decide +kernel
theorem d2_80 : decode method_4_code 80 = .ok (.invokestatic 70, 3) := by decide +kernel
theorem d2_83 : decode method_4_code 83 = .ok (.iadd, 1) := by decide +kernel
theorem d2_84 : decode method_4_code 84 = .ok (.lload_n 0, 1) := by decide +kernel
theorem d2_85 : decode method_4_code 85 = .ok (.aload_n 2, 1) := by decide +kernel
theorem d2_86 : decode method_4_code 86 = .ok (.bipush 12, 2) := by decide +kernel
theorem d2_88 : decode method_4_code 88 = .ok (.invokestatic 70, 3) := by decide +kernel
theorem d2_91 : decode method_4_code 91 = .ok (.iadd, 1) := by decide +kernel
theorem d2_92 : decode method_4_code 92 = .ok (.lload_n 0, 1) := by decide +kernel
theorem d2_93 : decode method_4_code 93 = .ok (.aload_n 2, 1) := by decide +kernel
theorem d2_94 : decode method_4_code 94 = .ok (.bipush 13, 2) := by decide +kernel
theorem d2_96 : decode method_4_code 96 = .ok (.invokestatic 70, 3) := by decide +kernel
theorem d2_99 : decode method_4_code 99 = .ok (.iadd, 1) := by decide +kernel
theorem d2_100 : decode method_4_code 100 = .ok (.lload_n 0, 1) := by decide +kernel
theorem d2_101 : decode method_4_code 101 = .ok (.aload_n 2, 1) := by decide +kernel
theorem d2_102 : decode method_4_code 102 = .ok (.bipush 14, 2) := by decide +kernel
theorem d2_104 : decode method_4_code 104 = .ok (.invokestatic 70, 3) := by decide +kernel
theorem d2_107 : decode method_4_code 107 = .ok (.iadd, 1) := by decide +kernel
theorem d2_108 : decode method_4_code 108 = .ok (.lload_n 0, 1) := by decide +kernel
theorem d2_109 : decode method_4_code 109 = .ok (.aload_n 2, 1) := by decide +kernel
theorem d2_110 : decode method_4_code 110 = .ok (.bipush 15, 2) := by decide +kernel
theorem d2_112 : decode method_4_code 112 = .ok (.invokestatic 70, 3) := by decide +kernel
theorem d2_115 : decode method_4_code 115 = .ok (.iadd, 1) := by decide +kernel
theorem d2_116 : decode method_4_code 116 = .ok (.lload_n 0, 1) := by decide +kernel
theorem d2_117 : decode method_4_code 117 = .ok (.aload_n 2, 1) := by decide +kernel
theorem d2_118 : decode method_4_code 118 = .ok (.bipush 16, 2) := by decide +kernel
theorem d2_120 : decode method_4_code 120 = .ok (.invokestatic 70, 3) := by decide +kernel
theorem d2_123 : decode method_4_code 123 = .ok (.iadd, 1) := by decide +kernel
theorem d2_124 : decode method_4_code 124 = .ok (.lload_n 0, 1) := by decide +kernel
theorem d2_125 : decode method_4_code 125 = .ok (.aload_n 2, 1) := by decide +kernel
theorem d2_126 : decode method_4_code 126 = .ok (.bipush 17, 2) := by decide +kernel
theorem d2_128 : decode method_4_code 128 = .ok (.invokestatic 70, 3) := by decide +kernel
theorem d2_131 : decode method_4_code 131 = .ok (.iadd, 1) := by decide +kernel
theorem d2_132 : decode method_4_code 132 = .ok (.lload_n 0, 1) := by decide +kernel
theorem d2_133 : decode method_4_code 133 = .ok (.aload_n 2, 1) := by decide +kernel
theorem d2_134 : decode method_4_code 134 = .ok (.bipush 18, 2) := by decide +kernel
theorem d2_136 : decode method_4_code 136 = .ok (.invokestatic 70, 3) := by decide +kernel
theorem d2_139 : decode method_4_code 139 = .ok (.iadd, 1) := by decide +kernel
theorem d2_140 : decode method_4_code 140 = .ok (.ireturn, 1) := by decide +kernel
theorem d3_0 : decode jdk_29_method_65_code 0 = .ok (.iload_n 0, 1) := by decide +kernel
theorem d3_1 : decode jdk_29_method_65_code 1 = .ok (.iload_n 1, 1) := by decide +kernel
theorem d3_2 : decode jdk_29_method_65_code 2 = .ok (.if_icmp .lt 7, 3) := by decide +kernel
theorem d3_5 : decode jdk_29_method_65_code 5 = .ok (.iload_n 0, 1) := by decide +kernel
theorem d3_6 : decode jdk_29_method_65_code 6 = .ok (.goto 4, 3) := by decide +kernel
theorem d3_9 : decode jdk_29_method_65_code 9 = .ok (.iload_n 1, 1) := by decide +kernel
theorem d3_10 : decode jdk_29_method_65_code 10 = .ok (.ireturn, 1) := by decide +kernel
theorem d4_0 : decode prog_57_method_11_code 0 = .ok (.lload_n 2, 1) := by decide +kernel
theorem d4_1 : decode prog_57_method_11_code 1 = .ok (.lstore 5, 2) := by decide +kernel
theorem d4_3 : decode prog_57_method_11_code 3 = .ok (.iconst 0, 1) := by decide +kernel
theorem d4_4 : decode prog_57_method_11_code 4 = .ok (.istore 7, 2) := by decide +kernel
theorem d4_6 : decode prog_57_method_11_code 6 = .ok (.iload 7, 2) := by decide +kernel
theorem d4_8 : decode prog_57_method_11_code 8 = .ok (.iload 4, 2) := by decide +kernel
theorem d4_10 : decode prog_57_method_11_code 10 = .ok (.if_icmp .ge 17, 3) := by decide +kernel
theorem d4_13 : decode prog_57_method_11_code 13 = .ok (.lload 5, 2) := by decide +kernel
theorem d4_15 : decode prog_57_method_11_code 15 = .ok (.ldc2_w 103, 3) := by decide +kernel
theorem d4_18 : decode prog_57_method_11_code 18 = .ok (.ldiv, 1) := by decide +kernel
theorem d4_19 : decode prog_57_method_11_code 19 = .ok (.lstore 5, 2) := by decide +kernel
theorem d4_21 : decode prog_57_method_11_code 21 = .ok (.iinc 7 1, 3) := by decide +kernel
theorem d4_24 : decode prog_57_method_11_code 24 = .ok (.goto (-18), 3) := by decide +kernel
theorem d4_27 : decode prog_57_method_11_code 27 = .ok (.iload 4, 2) := by decide +kernel
theorem d4_29 : decode prog_57_method_11_code 29 = .ok (.ifCond .ne 7, 3) := by decide +kernel
theorem d4_32 : decode prog_57_method_11_code 32 = .ok (.iload_n 1, 1) := by decide +kernel
theorem d4_33 : decode prog_57_method_11_code 33 = .ok (.goto 9, 3) := by decide +kernel
theorem d4_36 : decode prog_57_method_11_code 36 = .ok (.iload_n 1, 1) := by decide +kernel
theorem d4_37 : decode prog_57_method_11_code 37 = .ok (.iload 4, 2) := by decide +kernel
theorem d4_39 : decode prog_57_method_11_code 39 = .ok (.iadd, 1) := by decide +kernel
theorem d4_40 : decode prog_57_method_11_code 40 = .ok (.iconst 1, 1) := by decide +kernel
theorem d4_41 : decode prog_57_method_11_code 41 = .ok (.iadd, 1) := by decide +kernel
theorem d4_42 : decode prog_57_method_11_code 42 = .ok (.istore 7, 2) := by decide +kernel
theorem d4_44 : decode prog_57_method_11_code 44 = .ok (.iinc 7 1, 3) := by decide +kernel
theorem d4_47 : decode prog_57_method_11_code 47 = .ok (.lload 5, 2) := by decide +kernel
theorem d4_49 : decode prog_57_method_11_code 49 = .ok (.ldc2_w 103, 3) := by decide +kernel
theorem d4_52 : decode prog_57_method_11_code 52 = .ok (.ldiv, 1) := by decide +kernel
theorem d4_53 : decode prog_57_method_11_code 53 = .ok (.lstore 5, 2) := by decide +kernel
theorem d4_55 : decode prog_57_method_11_code 55 = .ok (.lload 5, 2) := by decide +kernel
theorem d4_57 : decode prog_57_method_11_code 57 = .ok (.lconst 0, 1) := by decide +kernel
theorem d4_58 : decode prog_57_method_11_code 58 = .ok (.lcmp, 1) := by decide +kernel
theorem d4_59 : decode prog_57_method_11_code 59 = .ok (.ifCond .ne (-15), 3) := by decide +kernel
theorem d4_62 : decode prog_57_method_11_code 62 = .ok (.lload_n 2, 1) := by decide +kernel
theorem d4_63 : decode prog_57_method_11_code 63 = .ok (.lstore 8, 2) := by decide +kernel
theorem d4_65 : decode prog_57_method_11_code 65 = .ok (.iload 7, 2) := by decide +kernel
theorem d4_67 : decode prog_57_method_11_code 67 = .ok (.istore 10, 2) := by decide +kernel
theorem d4_69 : decode prog_57_method_11_code 69 = .ok (.iconst 0, 1) := by decide +kernel
theorem d4_70 : decode prog_57_method_11_code 70 = .ok (.istore 11, 2) := by decide +kernel
theorem d4_72 : decode prog_57_method_11_code 72 = .ok (.iload 11, 2) := by decide +kernel
theorem d4_74 : decode prog_57_method_11_code 74 = .ok (.iload 4, 2) := by decide +kernel
theorem d4_76 : decode prog_57_method_11_code 76 = .ok (.if_icmp .ge 36, 3) := by decide +kernel
theorem d4_79 : decode prog_57_method_11_code 79 = .ok (.aload_n 0, 1) := by decide +kernel
theorem d4_80 : decode prog_57_method_11_code 80 = .ok (.iinc 10 (-1), 3) := by decide +kernel
theorem d4_83 : decode prog_57_method_11_code 83 = .ok (.iload 10, 2) := by decide +kernel
theorem d4_85 : decode prog_57_method_11_code 85 = .ok (.ldc2_w 142, 3) := by decide +kernel
theorem d4_88 : decode prog_57_method_11_code 88 = .ok (.lload 8, 2) := by decide +kernel
theorem d4_90 : decode prog_57_method_11_code 90 = .ok (.ldc2_w 103, 3) := by decide +kernel
theorem d4_93 : decode prog_57_method_11_code 93 = .ok (.lrem, 1) := by decide +kernel
theorem d4_94 : decode prog_57_method_11_code 94 = .ok (.ladd, 1) := by decide +kernel
theorem d4_95 : decode prog_57_method_11_code 95 = .ok (.l2i, 1) := by decide +kernel
theorem d4_96 : decode prog_57_method_11_code 96 = .ok (.i2b, 1) := by decide +kernel
theorem d4_97 : decode prog_57_method_11_code 97 = .ok (.bastore, 1) := by decide +kernel
theorem d4_98 : decode prog_57_method_11_code 98 = .ok (.lload 8, 2) := by decide +kernel
theorem d4_100 : decode prog_57_method_11_code 100 = .ok (.ldc2_w 103, 3) := by decide +kernel
theorem d4_103 : decode prog_57_method_11_code 103 = .ok (.ldiv, 1) := by decide +kernel
theorem d4_104 : decode prog_57_method_11_code 104 = .ok (.lstore 8, 2) := by decide +kernel
theorem d4_106 : decode prog_57_method_11_code 106 = .ok (.iinc 11 1, 3) := by decide +kernel
theorem d4_109 : decode prog_57_method_11_code 109 = .ok (.goto (-37), 3) := by decide +kernel
theorem d4_112 : decode prog_57_method_11_code 112 = .ok (.iload 4, 2) := by decide +kernel
theorem d4_114 : decode prog_57_method_11_code 114 = .ok (.ifCond .le 12, 3) := by decide +kernel
theorem d4_117 : decode prog_57_method_11_code 117 = .ok (.aload_n 0, 1) := by decide +kernel
theorem d4_118 : decode prog_57_method_11_code 118 = .ok (.iinc 10 (-1), 3) := by decide +kernel
theorem d4_121 : decode prog_57_method_11_code 121 = .ok (.iload 10, 2) := by decide +kernel
theorem d4_123 : decode prog_57_method_11_code 123 = .ok (.bipush 46, 2) := by decide +kernel
theorem d4_125 : decode prog_57_method_11_code 125 = .ok (.bastore, 1) := by decide +kernel
theorem d4_126 : decode prog_57_method_11_code 126 = .ok (.aload_n 0, 1) := by decide +kernel
theorem d4_127 : decode prog_57_method_11_code 127 = .ok (.iinc 10 (-1), 3) := by decide +kernel
theorem d4_130 : decode prog_57_method_11_code 130 = .ok (.iload 10, 2) := by decide +kernel
theorem d4_132 : decode prog_57_method_11_code 132 = .ok (.ldc2_w 142, 3) := by decide +kernel
theorem d4_135 : decode prog_57_method_11_code 135 = .ok (.lload 8, 2) := by decide +kernel
theorem d4_137 : decode prog_57_method_11_code 137 = .ok (.ldc2_w 103, 3) := by decide +kernel
theorem d4_140 : decode prog_57_method_11_code 140 = .ok (.lrem, 1) := by decide +kernel
theorem d4_141 : decode prog_57_method_11_code 141 = .ok (.ladd, 1) := by decide +kernel
theorem d4_142 : decode prog_57_method_11_code 142 = .ok (.l2i, 1) := by decide +kernel
theorem d4_143 : decode prog_57_method_11_code 143 = .ok (.i2b, 1) := by decide +kernel
theorem d4_144 : decode prog_57_method_11_code 144 = .ok (.bastore, 1) := by decide +kernel
theorem d4_145 : decode prog_57_method_11_code 145 = .ok (.lload 8, 2) := by decide +kernel
theorem d4_147 : decode prog_57_method_11_code 147 = .ok (.ldc2_w 103, 3) := by decide +kernel
theorem d4_150 : decode prog_57_method_11_code 150 = .ok (.ldiv, 1) := by decide +kernel
theorem d4_151 : decode prog_57_method_11_code 151 = .ok (.lstore 8, 2) := by decide +kernel
theorem d4_153 : decode prog_57_method_11_code 153 = .ok (.lload 8, 2) := by decide +kernel
theorem d4_155 : decode prog_57_method_11_code 155 = .ok (.lconst 0, 1) := by decide +kernel
theorem d4_156 : decode prog_57_method_11_code 156 = .ok (.lcmp, 1) := by decide +kernel
theorem d4_157 : decode prog_57_method_11_code 157 = .ok (.ifCond .ne (-31), 3) := by decide +kernel
theorem d4_160 : decode prog_57_method_11_code 160 = .ok (.iload 7, 2) := by decide +kernel
theorem d4_162 : decode prog_57_method_11_code 162 = .ok (.ireturn, 1) := by decide +kernel
theorem d5_0 : decode method_5_code 0 = .ok (.aload_n 0, 1) := by decide +kernel
theorem d5_1 : decode method_5_code 1 = .ok (.iload_n 1, 1) := by decide +kernel
theorem d5_2 : decode method_5_code 2 = .ok (.baload, 1) := by decide +kernel
theorem d5_3 : decode method_5_code 3 = .ok (.istore 8, 2) := by decide +kernel
theorem d5_5 : decode method_5_code 5 = .ok (.iload_n 1, 1) := by decide +kernel
theorem d5_6 : decode method_5_code 6 = .ok (.iload_n 2, 1) := by decide +kernel
theorem d5_7 : decode method_5_code 7 = .ok (.if_icmp .lt 10, 3) := by decide +kernel
theorem d5_10 : decode method_5_code 10 = .ok (.iload_n 1, 1) := by decide +kernel
theorem d5_11 : decode method_5_code 11 = .ok (.iload_n 2, 1) := by decide +kernel
theorem d5_12 : decode method_5_code 12 = .ok (.iload_n 3, 1) := by decide +kernel
theorem d5_13 : decode method_5_code 13 = .ok (.iadd, 1) := by decide +kernel
theorem d5_14 : decode method_5_code 14 = .ok (.if_icmp .lt 14, 3) := by decide +kernel
theorem d5_17 : decode method_5_code 17 = .ok (.iload 8, 2) := by decide +kernel
theorem d5_19 : decode method_5_code 19 = .ok (.ifCond .ne 7, 3) := by decide +kernel
theorem d5_22 : decode method_5_code 22 = .ok (.iconst 1, 1) := by decide +kernel
theorem d5_23 : decode method_5_code 23 = .ok (.goto 4, 3) := by decide +kernel
theorem d5_27 : decode method_5_code 27 = .ok (.ireturn, 1) := by decide +kernel
theorem d5_28 : decode method_5_code 28 = .ok (.iload_n 2, 1) := by decide +kernel
theorem d5_29 : decode method_5_code 29 = .ok (.iload_n 3, 1) := by decide +kernel
theorem d5_30 : decode method_5_code 30 = .ok (.iadd, 1) := by decide +kernel
theorem d5_31 : decode method_5_code 31 = .ok (.iconst 1, 1) := by decide +kernel
theorem d5_32 : decode method_5_code 32 = .ok (.isub, 1) := by decide +kernel
theorem d5_33 : decode method_5_code 33 = .ok (.iload_n 1, 1) := by decide +kernel
theorem d5_34 : decode method_5_code 34 = .ok (.isub, 1) := by decide +kernel
theorem d5_35 : decode method_5_code 35 = .ok (.istore 9, 2) := by decide +kernel
theorem d5_37 : decode method_5_code 37 = .ok (.iload 6, 2) := by decide +kernel
theorem d5_39 : decode method_5_code 39 = .ok (.ifCond .le 44, 3) := by decide +kernel
theorem d5_42 : decode method_5_code 42 = .ok (.iload 9, 2) := by decide +kernel
theorem d5_44 : decode method_5_code 44 = .ok (.iload 6, 2) := by decide +kernel
theorem d5_46 : decode method_5_code 46 = .ok (.if_icmp .ne 16, 3) := by decide +kernel
theorem d5_49 : decode method_5_code 49 = .ok (.iload 8, 2) := by decide +kernel
theorem d5_51 : decode method_5_code 51 = .ok (.bipush 46, 2) := by decide +kernel
theorem d5_53 : decode method_5_code 53 = .ok (.if_icmp .ne 7, 3) := by decide +kernel
theorem d5_56 : decode method_5_code 56 = .ok (.iconst 1, 1) := by decide +kernel
theorem d5_57 : decode method_5_code 57 = .ok (.goto 4, 3) := by decide +kernel
theorem d5_61 : decode method_5_code 61 = .ok (.ireturn, 1) := by decide +kernel
theorem d5_62 : decode method_5_code 62 = .ok (.iload 9, 2) := by decide +kernel
theorem d5_64 : decode method_5_code 64 = .ok (.iload 6, 2) := by decide +kernel
theorem d5_66 : decode method_5_code 66 = .ok (.if_icmp .ge 8, 3) := by decide +kernel
theorem d5_69 : decode method_5_code 69 = .ok (.iload 9, 2) := by decide +kernel
theorem d5_71 : decode method_5_code 71 = .ok (.goto 7, 3) := by decide +kernel
theorem d5_74 : decode method_5_code 74 = .ok (.iload 9, 2) := by decide +kernel
theorem d5_76 : decode method_5_code 76 = .ok (.iconst 1, 1) := by decide +kernel
theorem d5_77 : decode method_5_code 77 = .ok (.isub, 1) := by decide +kernel
theorem d5_78 : decode method_5_code 78 = .ok (.istore 10, 2) := by decide +kernel
theorem d5_80 : decode method_5_code 80 = .ok (.goto 7, 3) := by decide +kernel
theorem d5_83 : decode method_5_code 83 = .ok (.iload 9, 2) := by decide +kernel
theorem d5_85 : decode method_5_code 85 = .ok (.istore 10, 2) := by decide +kernel
theorem d5_87 : decode method_5_code 87 = .ok (.lload 4, 2) := by decide +kernel
theorem d5_89 : decode method_5_code 89 = .ok (.aload 7, 2) := by decide +kernel
theorem d5_91 : decode method_5_code 91 = .ok (.iload 10, 2) := by decide +kernel
theorem d5_93 : decode method_5_code 93 = .ok (.laload, 1) := by decide +kernel
theorem d5_94 : decode method_5_code 94 = .ok (.ldiv, 1) := by decide +kernel
theorem d5_95 : decode method_5_code 95 = .ok (.ldc2_w 12, 3) := by decide +kernel
theorem d5_98 : decode method_5_code 98 = .ok (.lrem, 1) := by decide +kernel
theorem d5_99 : decode method_5_code 99 = .ok (.lstore 11, 2) := by decide +kernel
theorem d5_101 : decode method_5_code 101 = .ok (.iload 8, 2) := by decide +kernel
theorem d5_103 : decode method_5_code 103 = .ok (.ldc2_w 74, 3) := by decide +kernel
theorem d5_106 : decode method_5_code 106 = .ok (.lload 11, 2) := by decide +kernel
theorem d5_108 : decode method_5_code 108 = .ok (.ladd, 1) := by decide +kernel
theorem d5_109 : decode method_5_code 109 = .ok (.l2i, 1) := by decide +kernel
theorem d5_110 : decode method_5_code 110 = .ok (.i2b, 1) := by decide +kernel
theorem d5_111 : decode method_5_code 111 = .ok (.if_icmp .ne 7, 3) := by decide +kernel
theorem d5_114 : decode method_5_code 114 = .ok (.iconst 1, 1) := by decide +kernel
theorem d5_115 : decode method_5_code 115 = .ok (.goto 4, 3) := by decide +kernel
theorem d5_119 : decode method_5_code 119 = .ok (.ireturn, 1) := by decide +kernel
theorem pd_0 : parseMethodDescriptor "(J[JI)I" = some ⟨[.long, (.array .long), .int], some .int⟩ := by decide +kernel
theorem pd_1 : parseMethodDescriptor "(J[J)I" = some ⟨[.long, (.array .long)], some .int⟩ := by decide +kernel
theorem pd_2 : parseMethodDescriptor "(II)I" = some ⟨[.int, .int], some .int⟩ := by decide +kernel
theorem pd_3 : parseMethodDescriptor "([BIJI)I" = some ⟨[(.array .byte), .int, .long, .int], some .int⟩ := by decide +kernel
theorem pd_4 : parseMethodDescriptor "([BIIIJI[J)Z" = some ⟨[(.array .byte), .int, .int, .int, .long, .int, (.array .long)], some .boolean⟩ := by decide +kernel
theorem wd0 {a0 : Array Value} {Z : State} (hw : ∀ d ∈ tables_1, d.before a0 Z = true) : (Jvm.Cond.constantLong "com/example/voxweight/voxweight/io/DecimalsWriteDigitsPinLaw" (9 : Nat) (9223372036854775807 : Int64)).before a0 Z = true := hw _ (List.mem_of_getElem? (i := 0) rfl)
theorem wd1 {a0 : Array Value} {Z : State} (hw : ∀ d ∈ tables_1, d.before a0 Z = true) : (Jvm.Cond.constant "com/example/voxweight/voxweight/io/DecimalsWriteDigitsPinLaw" (11 : Nat) (2147483647 : Int32)).before a0 Z = true := hw _ (List.mem_of_getElem? (i := 1) rfl)
theorem wd2 {a0 : Array Value} {Z : State} (hw : ∀ d ∈ tables_1, d.before a0 Z = true) : (Jvm.Cond.arrayClass Jvm.ClassFile.FieldType.long).before a0 Z = true := hw _ (List.mem_of_getElem? (i := 2) rfl)
theorem wd3 {a0 : Array Value} {Z : State} (hw : ∀ d ∈ tables_1, d.before a0 Z = true) : (Jvm.Cond.constantLong "com/example/voxweight/voxweight/io/DecimalsWriteDigitsPinLaw" (12 : Nat) (10 : Int64)).before a0 Z = true := hw _ (List.mem_of_getElem? (i := 3) rfl)
theorem wd4 {a0 : Array Value} {Z : State} (hw : ∀ d ∈ tables_1, d.before a0 Z = true) : (Jvm.Cond.constantLong "com/example/voxweight/voxweight/io/DecimalsWriteDigitsPinLaw" (14 : Nat) (100 : Int64)).before a0 Z = true := hw _ (List.mem_of_getElem? (i := 4) rfl)
theorem wd5 {a0 : Array Value} {Z : State} (hw : ∀ d ∈ tables_1, d.before a0 Z = true) : (Jvm.Cond.constantLong "com/example/voxweight/voxweight/io/DecimalsWriteDigitsPinLaw" (16 : Nat) (1000 : Int64)).before a0 Z = true := hw _ (List.mem_of_getElem? (i := 5) rfl)
theorem wd6 {a0 : Array Value} {Z : State} (hw : ∀ d ∈ tables_1, d.before a0 Z = true) : (Jvm.Cond.constantLong "com/example/voxweight/voxweight/io/DecimalsWriteDigitsPinLaw" (18 : Nat) (10000 : Int64)).before a0 Z = true := hw _ (List.mem_of_getElem? (i := 6) rfl)
theorem wd7 {a0 : Array Value} {Z : State} (hw : ∀ d ∈ tables_1, d.before a0 Z = true) : (Jvm.Cond.constantLong "com/example/voxweight/voxweight/io/DecimalsWriteDigitsPinLaw" (20 : Nat) (100000 : Int64)).before a0 Z = true := hw _ (List.mem_of_getElem? (i := 7) rfl)
theorem wd8 {a0 : Array Value} {Z : State} (hw : ∀ d ∈ tables_1, d.before a0 Z = true) : (Jvm.Cond.constantLong "com/example/voxweight/voxweight/io/DecimalsWriteDigitsPinLaw" (22 : Nat) (1000000 : Int64)).before a0 Z = true := hw _ (List.mem_of_getElem? (i := 8) rfl)
theorem wd9 {a0 : Array Value} {Z : State} (hw : ∀ d ∈ tables_1, d.before a0 Z = true) : (Jvm.Cond.constantLong "com/example/voxweight/voxweight/io/DecimalsWriteDigitsPinLaw" (24 : Nat) (10000000 : Int64)).before a0 Z = true := hw _ (List.mem_of_getElem? (i := 9) rfl)
theorem wd10 {a0 : Array Value} {Z : State} (hw : ∀ d ∈ tables_1, d.before a0 Z = true) : (Jvm.Cond.constantLong "com/example/voxweight/voxweight/io/DecimalsWriteDigitsPinLaw" (26 : Nat) (100000000 : Int64)).before a0 Z = true := hw _ (List.mem_of_getElem? (i := 10) rfl)
theorem wd11 {a0 : Array Value} {Z : State} (hw : ∀ d ∈ tables_1, d.before a0 Z = true) : (Jvm.Cond.constantLong "com/example/voxweight/voxweight/io/DecimalsWriteDigitsPinLaw" (28 : Nat) (1000000000 : Int64)).before a0 Z = true := hw _ (List.mem_of_getElem? (i := 11) rfl)
theorem wd12 {a0 : Array Value} {Z : State} (hw : ∀ d ∈ tables_1, d.before a0 Z = true) : (Jvm.Cond.constantLong "com/example/voxweight/voxweight/io/DecimalsWriteDigitsPinLaw" (30 : Nat) (10000000000 : Int64)).before a0 Z = true := hw _ (List.mem_of_getElem? (i := 12) rfl)
theorem wd13 {a0 : Array Value} {Z : State} (hw : ∀ d ∈ tables_1, d.before a0 Z = true) : (Jvm.Cond.constantLong "com/example/voxweight/voxweight/io/DecimalsWriteDigitsPinLaw" (32 : Nat) (100000000000 : Int64)).before a0 Z = true := hw _ (List.mem_of_getElem? (i := 13) rfl)
theorem wd14 {a0 : Array Value} {Z : State} (hw : ∀ d ∈ tables_1, d.before a0 Z = true) : (Jvm.Cond.constantLong "com/example/voxweight/voxweight/io/DecimalsWriteDigitsPinLaw" (34 : Nat) (1000000000000 : Int64)).before a0 Z = true := hw _ (List.mem_of_getElem? (i := 14) rfl)
theorem wd15 {a0 : Array Value} {Z : State} (hw : ∀ d ∈ tables_1, d.before a0 Z = true) : (Jvm.Cond.constantLong "com/example/voxweight/voxweight/io/DecimalsWriteDigitsPinLaw" (36 : Nat) (10000000000000 : Int64)).before a0 Z = true := hw _ (List.mem_of_getElem? (i := 15) rfl)
theorem wd16 {a0 : Array Value} {Z : State} (hw : ∀ d ∈ tables_1, d.before a0 Z = true) : (Jvm.Cond.constantLong "com/example/voxweight/voxweight/io/DecimalsWriteDigitsPinLaw" (38 : Nat) (100000000000000 : Int64)).before a0 Z = true := hw _ (List.mem_of_getElem? (i := 16) rfl)
theorem wd17 {a0 : Array Value} {Z : State} (hw : ∀ d ∈ tables_1, d.before a0 Z = true) : (Jvm.Cond.constantLong "com/example/voxweight/voxweight/io/DecimalsWriteDigitsPinLaw" (40 : Nat) (1000000000000000 : Int64)).before a0 Z = true := hw _ (List.mem_of_getElem? (i := 17) rfl)
theorem wd18 {a0 : Array Value} {Z : State} (hw : ∀ d ∈ tables_1, d.before a0 Z = true) : (Jvm.Cond.constantLong "com/example/voxweight/voxweight/io/DecimalsWriteDigitsPinLaw" (42 : Nat) (10000000000000000 : Int64)).before a0 Z = true := hw _ (List.mem_of_getElem? (i := 18) rfl)
theorem wd19 {a0 : Array Value} {Z : State} (hw : ∀ d ∈ tables_1, d.before a0 Z = true) : (Jvm.Cond.constantLong "com/example/voxweight/voxweight/io/DecimalsWriteDigitsPinLaw" (44 : Nat) (100000000000000000 : Int64)).before a0 Z = true := hw _ (List.mem_of_getElem? (i := 19) rfl)
theorem wd20 {a0 : Array Value} {Z : State} (hw : ∀ d ∈ tables_1, d.before a0 Z = true) : (Jvm.Cond.constantLong "com/example/voxweight/voxweight/io/DecimalsWriteDigitsPinLaw" (46 : Nat) (1000000000000000000 : Int64)).before a0 Z = true := hw _ (List.mem_of_getElem? (i := 20) rfl)
theorem wd21 {a0 : Array Value} {Z : State} (hw : ∀ d ∈ tables_1, d.before a0 Z = true) : (Jvm.Cond.methodLink "com/example/voxweight/voxweight/io/DecimalsWriteDigitsPinLaw" (48 : Nat) ({ cls := "com/example/voxweight/voxweight/io/DecimalsWriteDigitsPinLaw", name := "digits", desc := "(J[J)I" } : Jvm.MethodName)).before a0 Z = true := hw _ (List.mem_of_getElem? (i := 21) rfl)
theorem wd22 {a0 : Array Value} {Z : State} (hw : ∀ d ∈ tables_1, d.before a0 Z = true) : (Jvm.Cond.static ({ cls := "com/example/voxweight/voxweight/io/DecimalsWriteDigitsPinLaw", name := "digits", desc := "(J[J)I" } : Jvm.MethodName)).before a0 Z = true := hw _ (List.mem_of_getElem? (i := 22) rfl)
theorem wd23 {a0 : Array Value} {Z : State} (hw : ∀ d ∈ tables_1, d.before a0 Z = true) : (Jvm.Cond.initialized "com/example/voxweight/voxweight/io/DecimalsWriteDigitsPinLaw").before a0 Z = true := hw _ (List.mem_of_getElem? (i := 23) rfl)
theorem wd24 {a0 : Array Value} {Z : State} (hw : ∀ d ∈ tables_1, d.before a0 Z = true) : (Jvm.Cond.code ({ cls := "com/example/voxweight/voxweight/io/DecimalsWriteDigitsPinLaw", name := "digits", desc := "(J[J)I" } : Jvm.MethodName) method_4_code (3 : Nat) (Option.some Jvm.ClassFile.FieldType.int)).before a0 Z = true := hw _ (List.mem_of_getElem? (i := 24) rfl)
theorem wd25 {a0 : Array Value} {Z : State} (hw : ∀ d ∈ tables_1, d.before a0 Z = true) : (Jvm.Cond.methodLink "com/example/voxweight/voxweight/io/DecimalsWriteDigitsPinLaw" (70 : Nat) ({ cls := "com/example/voxweight/voxweight/io/DecimalsWriteDigitsPinLaw", name := "ge", desc := "(J[JI)I" } : Jvm.MethodName)).before a0 Z = true := hw _ (List.mem_of_getElem? (i := 25) rfl)
theorem wd26 {a0 : Array Value} {Z : State} (hw : ∀ d ∈ tables_1, d.before a0 Z = true) : (Jvm.Cond.static ({ cls := "com/example/voxweight/voxweight/io/DecimalsWriteDigitsPinLaw", name := "ge", desc := "(J[JI)I" } : Jvm.MethodName)).before a0 Z = true := hw _ (List.mem_of_getElem? (i := 26) rfl)
theorem wd27 {a0 : Array Value} {Z : State} (hw : ∀ d ∈ tables_1, d.before a0 Z = true) : (Jvm.Cond.code ({ cls := "com/example/voxweight/voxweight/io/DecimalsWriteDigitsPinLaw", name := "ge", desc := "(J[JI)I" } : Jvm.MethodName) method_3_code (4 : Nat) (Option.some Jvm.ClassFile.FieldType.int)).before a0 Z = true := hw _ (List.mem_of_getElem? (i := 27) rfl)
theorem wd28 {a0 : Array Value} {Z : State} (hw : ∀ d ∈ tables_1, d.before a0 Z = true) : (Jvm.Cond.methodLink "com/example/voxweight/voxweight/io/DecimalsWriteDigitsPinLaw" (54 : Nat) ({ cls := "java/lang/Math", name := "max", desc := "(II)I" } : Jvm.MethodName)).before a0 Z = true := hw _ (List.mem_of_getElem? (i := 28) rfl)
theorem wd29 {a0 : Array Value} {Z : State} (hw : ∀ d ∈ tables_1, d.before a0 Z = true) : (Jvm.Cond.static ({ cls := "java/lang/Math", name := "max", desc := "(II)I" } : Jvm.MethodName)).before a0 Z = true := hw _ (List.mem_of_getElem? (i := 29) rfl)
theorem wd30 {a0 : Array Value} {Z : State} (hw : ∀ d ∈ tables_1, d.before a0 Z = true) : (Jvm.Cond.initialized "java/lang/Math").before a0 Z = true := hw _ (List.mem_of_getElem? (i := 30) rfl)
theorem wd31 {a0 : Array Value} {Z : State} (hw : ∀ d ∈ tables_1, d.before a0 Z = true) : (Jvm.Cond.code ({ cls := "java/lang/Math", name := "max", desc := "(II)I" } : Jvm.MethodName) jdk_29_method_65_code (2 : Nat) (Option.some Jvm.ClassFile.FieldType.int)).before a0 Z = true := hw _ (List.mem_of_getElem? (i := 31) rfl)
theorem wd32 {a0 : Array Value} {Z : State} (hw : ∀ d ∈ tables_1, d.before a0 Z = true) : (Jvm.Cond.arrayClass Jvm.ClassFile.FieldType.byte).before a0 Z = true := hw _ (List.mem_of_getElem? (i := 32) rfl)
theorem wd33 {a0 : Array Value} {Z : State} (hw : ∀ d ∈ tables_1, d.before a0 Z = true) : (Jvm.Cond.methodLink "com/example/voxweight/voxweight/io/DecimalsWriteDigitsPinLaw" (60 : Nat) ({ cls := "com/example/voxweight/voxweight/io/Decimals", name := "writeDigits", desc := "([BIJI)I" } : Jvm.MethodName)).before a0 Z = true := hw _ (List.mem_of_getElem? (i := 33) rfl)
theorem wd34 {a0 : Array Value} {Z : State} (hw : ∀ d ∈ tables_1, d.before a0 Z = true) : (Jvm.Cond.static ({ cls := "com/example/voxweight/voxweight/io/Decimals", name := "writeDigits", desc := "([BIJI)I" } : Jvm.MethodName)).before a0 Z = true := hw _ (List.mem_of_getElem? (i := 34) rfl)
theorem wd35 {a0 : Array Value} {Z : State} (hw : ∀ d ∈ tables_1, d.before a0 Z = true) : (Jvm.Cond.initialized "com/example/voxweight/voxweight/io/Decimals").before a0 Z = true := hw _ (List.mem_of_getElem? (i := 35) rfl)
theorem wd36 {a0 : Array Value} {Z : State} (hw : ∀ d ∈ tables_1, d.before a0 Z = true) : (Jvm.Cond.code ({ cls := "com/example/voxweight/voxweight/io/Decimals", name := "writeDigits", desc := "([BIJI)I" } : Jvm.MethodName) prog_57_method_11_code (12 : Nat) (Option.some Jvm.ClassFile.FieldType.int)).before a0 Z = true := hw _ (List.mem_of_getElem? (i := 36) rfl)
theorem wd37 {a0 : Array Value} {Z : State} (hw : ∀ d ∈ tables_1, d.before a0 Z = true) : (Jvm.Cond.constantLong "com/example/voxweight/voxweight/io/Decimals" (103 : Nat) (10 : Int64)).before a0 Z = true := hw _ (List.mem_of_getElem? (i := 37) rfl)
theorem wd38 {a0 : Array Value} {Z : State} (hw : ∀ d ∈ tables_1, d.before a0 Z = true) : (Jvm.Cond.constantLong "com/example/voxweight/voxweight/io/Decimals" (142 : Nat) (48 : Int64)).before a0 Z = true := hw _ (List.mem_of_getElem? (i := 38) rfl)
theorem wd39 {a0 : Array Value} {Z : State} (hw : ∀ d ∈ tables_1, d.before a0 Z = true) : (Jvm.Cond.methodLink "com/example/voxweight/voxweight/io/DecimalsWriteDigitsPinLaw" (66 : Nat) ({ cls := "com/example/voxweight/voxweight/io/DecimalsWriteDigitsPinLaw", name := "ok", desc := "([BIIIJI[J)Z" } : Jvm.MethodName)).before a0 Z = true := hw _ (List.mem_of_getElem? (i := 39) rfl)
theorem wd40 {a0 : Array Value} {Z : State} (hw : ∀ d ∈ tables_1, d.before a0 Z = true) : (Jvm.Cond.static ({ cls := "com/example/voxweight/voxweight/io/DecimalsWriteDigitsPinLaw", name := "ok", desc := "([BIIIJI[J)Z" } : Jvm.MethodName)).before a0 Z = true := hw _ (List.mem_of_getElem? (i := 40) rfl)
theorem wd41 {a0 : Array Value} {Z : State} (hw : ∀ d ∈ tables_1, d.before a0 Z = true) : (Jvm.Cond.code ({ cls := "com/example/voxweight/voxweight/io/DecimalsWriteDigitsPinLaw", name := "ok", desc := "([BIIIJI[J)Z" } : Jvm.MethodName) method_5_code (13 : Nat) (Option.some Jvm.ClassFile.FieldType.boolean)).before a0 Z = true := hw _ (List.mem_of_getElem? (i := 41) rfl)
theorem wd42 {a0 : Array Value} {Z : State} (hw : ∀ d ∈ tables_1, d.before a0 Z = true) : (Jvm.Cond.constantLong "com/example/voxweight/voxweight/io/DecimalsWriteDigitsPinLaw" (74 : Nat) (48 : Int64)).before a0 Z = true := hw _ (List.mem_of_getElem? (i := 42) rfl)
/-! decimal digits, in plain numbers -/
def own_ch (m : Nat) : Int32 := Int32.ofNat (48 + m % 10)
def own_pw (k : Nat) : Int64 := Int64.ofNat (10 ^ k)
theorem own_ten {k : Nat} (h : k < 19) : 10 ^ k < 2 ^ 63 := Nat.lt_of_le_of_lt (Nat.pow_le_pow_right (by decide) (by omega : k ≤ 18)) (by decide)
theorem own_pw_int {k : Nat} (h : k < 19) : (own_pw k).toInt = ((10 ^ k : Nat) : Int) := Int64.toInt_ofNat_of_lt (own_ten h)
theorem own_pw_ne {k : Nat} (h : k < 19) : own_pw k ≠ 0 := fun z => by
  have h1 := own_pw_int h
  rw [z] at h1
  have h2 : 0 < 10 ^ k := Nat.pow_pos (by decide)
  have e : (0 : Int64).toInt = 0 := rfl
  omega
theorem own_divN {q p : Int64} {m k : Nat} (hq : q.toInt = (m : Int)) (hp : p.toInt = (k : Int)) : (q / p).toInt = ((m / k : Nat) : Int) := by
  rw [Jvm.Kit.i64_div (by omega), hq, hp, Int.tdiv_eq_ediv_of_nonneg (by omega)]
  rfl
theorem own_div10 {q v : Int64} {m : Nat} (hq : q.toInt = (m : Int)) (hv : v = q / 10) : v.toInt = ((m / 10 : Nat) : Int) := by
  rw [hv]
  exact own_divN hq rfl
theorem own_step10 {q v : Int64} {U k : Nat} (hq : q.toInt = ((U / 10 ^ k : Nat) : Int)) (hv : v = q / 10) : v.toInt = ((U / 10 ^ (k + 1) : Nat) : Int) := by
  rw [own_div10 hq hv, Nat.div_div_eq_div_mul, Nat.pow_succ]
theorem own_rem10 {q : Int64} {m : Nat} (hq : q.toInt = (m : Int)) : (q - (q / 10) * 10).toInt = ((m % 10 : Nat) : Int) := by
  rw [Jvm.Kit.i64_rem_nonneg (by omega), hq]
  rfl
theorem own_dig0 {r : Int64} {m : Nat} (hr : r.toInt = ((m % 10 : Nat) : Int)) : (((48 : Int64) + r).toInt32).toInt8.toInt32 = own_ch m := by
  have hm : m % 10 < 10 := Nat.mod_lt _ (by decide)
  unfold own_ch
  generalize m % 10 = d at hr hm
  have e : r = Int64.ofNat d := by
    apply Int64.toInt_inj.mp
    rw [hr, Int64.toInt_ofNat_of_lt (by omega)]
  subst e
  have : ∀ j : Fin 10, (((48 : Int64) + Int64.ofNat j.val).toInt32).toInt8.toInt32 = Int32.ofNat (48 + j.val) := by decide
  exact this ⟨d, hm⟩
theorem own_dig {q : Int64} {m : Nat} (hq : q.toInt = (m : Int)) : (((48 : Int64) + (q - (q / 10) * 10)).toInt32).toInt8.toInt32 = own_ch m := own_dig0 (own_rem10 hq)
theorem own_narch (m : Nat) : nar .byte (own_ch m) = own_ch m := by
  have hm : m % 10 < 10 := Nat.mod_lt _ (by decide)
  unfold own_ch
  generalize m % 10 = d at hm
  have : ∀ j : Fin 10, nar .byte (Int32.ofNat (48 + j.val)) = Int32.ofNat (48 + j.val) := by decide
  exact this ⟨d, hm⟩
theorem own_lt {i p : Int32} {k P : Nat} (hi : i.toInt = (k : Int)) (hp : p.toInt = (P : Int)) (h : k < P) : i < p := by
  rw [Int32.lt_iff_toInt_lt, hi, hp]
  omega
theorem own_nlt {i p : Int32} {k P : Nat} (hi : i.toInt = (k : Int)) (hp : p.toInt = (P : Int)) (h : ¬ k < P) : ¬ i < p := by
  rw [Int32.lt_iff_toInt_lt, hi, hp]
  omega
theorem own_incI {i v : Int32} {k : Nat} (hi : i.toInt = (k : Int)) (hv : v = i + 1) (hb : k < 1000) : v.toInt = ((k + 1 : Nat) : Int) := by
  have e : (1 : Int32).toInt = 1 := rfl
  rw [hv, Jvm.Kit.i32_add (by omega) (by omega), hi, e]
  rfl
theorem own_decI {i v : Int32} {k : Nat} (hi : i.toInt = ((k + 1 : Nat) : Int)) (hv : v = i + (-1)) (hb : k < 1000) : v.toInt = (k : Int) := by
  have e : (-1 : Int32).toInt = -1 := rfl
  rw [hv, Jvm.Kit.i32_add (by omega) (by omega), hi, e]
  omega
def own_S (P : Nat) : Nat := if P = 0 then 0 else P + 1
def own_ND (U P nd : Nat) : Prop := 1 ≤ nd ∧ (∀ t, 1 ≤ t → t < nd → U / 10 ^ (P + t) ≠ 0) ∧ U / 10 ^ (P + nd) = 0
def own_F3 (E U k i : Nat) : Int32 := if E - k ≤ i ∧ i < E then own_ch (U / 10 ^ (E - 1 - i)) else 0
def own_at (P U t : Nat) : Int32 := if P = 0 ∨ t < P then own_ch (U / 10 ^ t) else if t = P then 46 else own_ch (U / 10 ^ (t - 1))
def own_F4 (E P U c i : Nat) : Int32 := if E - own_S P - c ≤ i ∧ i < E then own_at P U (E - 1 - i) else 0
theorem own_S0 {P : Nat} (h : P = 0) : own_S P = 0 := if_pos h
theorem own_S1 {P : Nat} (h : 0 < P) : own_S P = P + 1 := if_neg (by omega)
theorem own_S_le {P Q : Nat} (h : P ≤ Q) : own_S P ≤ Q + 1 := by unfold own_S; split <;> omega
theorem own_PS (P : Nat) : P ≤ own_S P := by unfold own_S; split <;> omega
theorem own_zI {p : Int32} {P : Nat} (hp : p.toInt = (P : Int)) : p = 0 ↔ P = 0 := by
  have e : (0 : Int32).toInt = 0 := rfl
  rw [← Int32.toInt_inj, hp, e]
  omega
theorem own_P0 {p : Int32} {P : Nat} (hp : p.toInt = (P : Int)) (c : ¬ (0 : Int32) < p) : P = 0 := by
  have e : (0 : Int32).toInt = 0 := rfl
  rw [Int32.lt_iff_toInt_lt, hp, e] at c
  omega
theorem own_P1 {p : Int32} {P : Nat} (hp : p.toInt = (P : Int)) (c : (0 : Int32) < p) : 0 < P := by
  have e : (0 : Int32).toInt = 0 := rfl
  rw [Int32.lt_iff_toInt_lt, hp, e] at c
  omega
theorem own_z0 {v : Int64} {n : Nat} (h : v.toInt = (n : Int)) (hz : v = 0) : n = 0 := by
  have e : (0 : Int64).toInt = 0 := rfl
  rw [hz, e] at h
  omega
theorem own_zz {v : Int64} {n : Nat} (h : v.toInt = (n : Int)) (hn : n = 0) : v = 0 := by
  have e : (0 : Int64).toInt = 0 := rfl
  apply Int64.toInt_inj.mp
  rw [h, e]
  omega
theorem own_nz {v : Int64} {n : Nat} (h : v.toInt = (n : Int)) (hz : ¬ v = 0) : n ≠ 0 := fun q => hz (own_zz h q)
theorem own_next (U k : Nat) : U / 10 ^ (k + 1) = U / 10 ^ k / 10 := by rw [Nat.pow_succ, Nat.div_div_eq_div_mul]
theorem own_zdiv {U k : Nat} (h : U / 10 ^ k ≤ 0) : U / 10 ^ (k + 1) = 0 := by
  rw [own_next]
  generalize U / 10 ^ k = a at h ⊢
  omega
theorem own_lediv {U k n : Nat} (h : U / 10 ^ k ≤ n + 1) : U / 10 ^ (k + 1) ≤ n := by
  rw [own_next]
  generalize U / 10 ^ k = a at h ⊢
  omega
theorem own_small {U k : Nat} (hU : U < 2 ^ 63) (h : U / 10 ^ k ≠ 0) : k ≤ 18 := by
  refine Nat.le_of_not_lt fun q => h (Nat.div_eq_of_lt (Nat.lt_of_lt_of_le hU ?_))
  exact Nat.le_trans (by decide : 2 ^ 63 ≤ 10 ^ 19) (Nat.pow_le_pow_right (by decide) q)
theorem own_c18 {U P c : Nat} (hU : U < 2 ^ 63) (hall : ∀ t, 1 ≤ t → t ≤ c → U / 10 ^ (P + t) ≠ 0) : c ≤ 18 := by
  by_cases h : c = 0
  · omega
  · have := own_small hU (hall c (by omega) (Nat.le_refl _))
    omega
theorem own_all {U P c : Nat} (hall : ∀ t, 1 ≤ t → t ≤ c → U / 10 ^ (P + t) ≠ 0) (hne : U / 10 ^ (P + c + 1) ≠ 0) : ∀ t, 1 ≤ t → t ≤ c + 1 → U / 10 ^ (P + t) ≠ 0 := fun t h1 h2 => by
  by_cases h : t = c + 1
  · subst h
    exact hne
  · exact hall t h1 (by omega)
theorem own_jpos {v : Int32} {n : Nat} (h : v.toInt = (n : Int)) : 0 ≤ v.toInt := by omega
theorem own_jlt {v : Int32} {n N : Nat} (h : v.toInt = (n : Int)) (hn : n < N) : v.toInt < (N : Int) := by omega
theorem own_F3_0 (E U i : Nat) : Value.int 0 = Value.int (own_F3 E U 0 i) := by
  unfold own_F3
  rw [if_neg (by omega)]
theorem own_F3_step {N : Nat} {j x : Int32} {E U k : Nat} (hj : j.toInt = ((E - k - 1 : Nat) : Int)) (hx : x = own_ch (U / 10 ^ k)) (hk : k + 1 ≤ E) : ∀ i, i < N → (if i = j.toInt.toNat then Value.int (nar .byte x) else Value.int (own_F3 E U k i)) = Value.int (own_F3 E U (k + 1) i) := fun i hi => by
  have e : j.toInt.toNat = E - k - 1 := by omega
  rw [e, hx, own_narch]
  unfold own_F3
  by_cases h : i = E - k - 1
  · rw [if_pos h, if_pos (by omega), (by omega : E - 1 - i = k)]
  · rw [if_neg h]
    by_cases h2 : E - k ≤ i ∧ i < E
    · rw [if_pos h2, if_pos (by omega)]
    · rw [if_neg h2, if_neg (by omega)]
theorem own_Sz {P E : Nat} (h : P = 0) : E - P = E - own_S P - 0 := by rw [own_S0 h]; omega
theorem own_Sp {P E : Nat} (h : 0 < P) : E - P - 1 = E - own_S P - 0 := by rw [own_S1 h]; omega
theorem own_F34 {P E U i : Nat} (h : P = 0) : Value.int (own_F3 E U P i) = Value.int (own_F4 E P U 0 i) := by
  unfold own_F3 own_F4
  rw [own_S0 h, if_neg (by omega), if_neg (by omega)]
theorem own_F4_dot {N : Nat} {j : Int32} {E U P : Nat} (hj : j.toInt = ((E - P - 1 : Nat) : Int)) (hp : 0 < P) (hk : P + 1 ≤ E) : ∀ i, i < N → (if i = j.toInt.toNat then Value.int (nar .byte 46) else Value.int (own_F3 E U P i)) = Value.int (own_F4 E P U 0 i) := fun i hi => by
  have e : j.toInt.toNat = E - P - 1 := by omega
  rw [e, (by decide : nar .byte 46 = 46)]
  unfold own_F3 own_F4 own_at
  rw [own_S1 hp]
  by_cases h : i = E - P - 1
  · rw [if_pos h, if_pos (by omega), if_neg (by omega), if_pos (by omega)]
  · rw [if_neg h]
    by_cases h2 : E - P ≤ i ∧ i < E
    · rw [if_pos h2, if_pos (by omega), if_pos (by omega)]
    · rw [if_neg h2, if_neg (by omega)]
theorem own_F4_step {N : Nat} {j x : Int32} {E U P k : Nat} (hj : j.toInt = ((E - own_S P - k - 1 : Nat) : Int)) (hx : x = own_ch (U / 10 ^ (P + k))) (hk : own_S P + k + 1 ≤ E) : ∀ i, i < N → (if i = j.toInt.toNat then Value.int (nar .byte x) else Value.int (own_F4 E P U k i)) = Value.int (own_F4 E P U (k + 1) i) := fun i hi => by
  have e : j.toInt.toNat = E - own_S P - k - 1 := by omega
  rw [e, hx, own_narch]
  unfold own_F4
  by_cases h : i = E - own_S P - k - 1
  · rw [if_pos h, if_pos (by omega)]
    unfold own_at
    by_cases hp : P = 0
    · rw [if_pos (Or.inl hp)]
      rw [own_S0 hp] at h hk
      rw [hp, (by omega : E - 1 - i = 0 + k)]
    · rw [own_S1 (by omega)] at h hk
      rw [if_neg (by omega), if_neg (by omega), (by omega : E - 1 - i - 1 = P + k)]
  · rw [if_neg h]
    by_cases h2 : E - own_S P - k ≤ i ∧ i < E
    · rw [if_pos h2, if_pos (by omega)]
    · rw [if_neg h2, if_neg (by omega)]
/-! the law's own words -/
theorem own_ltN {i p : Int32} {k P : Nat} (hi : i.toInt = (k : Int)) (hp : p.toInt = (P : Int)) (c : i < p) : k < P := by
  rw [Int32.lt_iff_toInt_lt, hi, hp] at c
  omega
theorem own_geN {i p : Int32} {k P : Nat} (hi : i.toInt = (k : Int)) (hp : p.toInt = (P : Int)) (c : ¬ i < p) : P ≤ k := by
  rw [Int32.lt_iff_toInt_lt, hi, hp] at c
  omega
theorem own_eqN {i p : Int32} {k P : Nat} (hi : i.toInt = (k : Int)) (hp : p.toInt = (P : Int)) (c : i = p) : k = P := by
  rw [← Int32.toInt_inj, hi, hp] at c
  omega
theorem own_neN {i p : Int32} {k P : Nat} (hi : i.toInt = (k : Int)) (hp : p.toInt = (P : Int)) (c : ¬ i = p) : k ≠ P := by
  rw [← Int32.toInt_inj, hi, hp] at c
  omega
theorem own_addN {a b : Int32} {x y : Nat} (ha : a.toInt = (x : Int)) (hb : b.toInt = (y : Int)) (h : x + y < 1000) : (a + b).toInt = ((x + y : Nat) : Int) := by
  rw [Jvm.Kit.i32_add (by omega) (by omega), ha, hb]
  rfl
theorem own_subN {a b : Int32} {x y : Nat} (ha : a.toInt = (x : Int)) (hb : b.toInt = (y : Int)) (h : y ≤ x) (hx : x < 1000) : (a - b).toInt = ((x - y : Nat) : Int) := by
  rw [Jvm.Kit.i32_sub (by omega) (by omega), ha, hb]
  omega

theorem own_e0 {a p z : Int32} {A P : Nat} (hA : a.toInt = (A : Int)) (hP : p.toInt = (P : Int)) (hA3 : A ≤ 3) (hP18 : P ≤ 18) (hz : z = if p = (0 : Int32) then a else ((a + p) + (1 : Int32))) : z.toInt = ((A + own_S P : Nat) : Int) := by
  have e : (1 : Int32).toInt = 1 := rfl
  subst hz
  split
  · rename_i c
    rw [hA, own_S0 ((own_zI hP).mp c)]
    rfl
  · rename_i c
    have hp : 0 < P := by
      have := mt (own_zI hP).mpr c
      omega
    have h1 : (a + p).toInt = ((A + P : Nat) : Int) := by
      rw [Jvm.Kit.i32_add (by omega) (by omega), hA, hP]
      rfl
    rw [Jvm.Kit.i32_add (by omega) (by omega), h1, e, own_S1 hp]
    omega
theorem own_nd_le {U P nd : Nat} (hU : U < 2 ^ 63) (hnd : own_ND U P nd) (hP : P ≤ 18) : P + nd ≤ 19 := by
  obtain ⟨h1, h2, -⟩ := hnd
  by_cases h : nd = 1
  · omega
  · have := own_small hU (h2 (nd - 1) (by omega) (by omega))
    omega
theorem own_Eb {U P nd A : Nat} (hU : U < 2 ^ 63) (hA : A ≤ 3) (hP : P ≤ 18) (hnd : own_ND U P nd) : A + own_S P + nd ≤ 23 := by
  have h1 := own_nd_le hU hnd hP
  unfold own_S
  split <;> omega
theorem own_Elow {U P nd A E : Nat} (hE : E = A + own_S P + nd) (hnd : own_ND U P nd) : own_S P + nd ≤ E ∧ 1 ≤ nd := ⟨by omega, hnd.1⟩
def WDQ (Z : State) (h0 : Heap) (n0 : Nat) (aB : Addr) (A P U : Nat) (v : Option Value) (h : Heap) (L : List Loc) : Prop :=
  Fr n0 L ∧ Keep h0 h [aB] ∧ ∃ nd, own_ND U P nd ∧ (∃ ev : Int32, v = some (.int ev) ∧ ev.toInt = ((A + own_S P + nd : Nat) : Int)) ∧ AA Z h aB .byte 24 (fun i => .int (own_F4 (A + own_S P + nd) P U nd i))
theorem WDQ.fr {Z : State} {h0 : Heap} {n0 : Nat} {aB : Addr} {A P U : Nat} : ∀ v h' L, WDQ Z h0 n0 aB A P U v h' L → Fr n0 L := fun _ _ _ z => z.1
/-- the place's digit, by its distance from the end -/
theorem own_okC0 {E P U nd A K : Nat} (hE : E = A + own_S P + nd) (h : K < A ∨ E ≤ K) : own_F4 E P U nd K = 0 := by
  unfold own_F4
  rw [if_neg (by omega)]
theorem own_okC1 {E P U nd A K : Nat} (hE : E = A + own_S P + nd) (h1 : A ≤ K) (h2 : K < E) (h : P = 0 ∨ E - 1 - K < P) : own_F4 E P U nd K = own_ch (U / 10 ^ (E - 1 - K)) := by
  unfold own_F4 own_at
  rw [if_pos (by omega), if_pos h]
theorem own_okC2 {E P U nd A K : Nat} (hE : E = A + own_S P + nd) (h1 : A ≤ K) (h2 : K < E) (hp : 0 < P) (h : P < E - 1 - K) : own_F4 E P U nd K = own_ch (U / 10 ^ (E - 1 - K - 1)) := by
  unfold own_F4 own_at
  rw [if_pos (by omega), if_neg (by omega), if_neg (by omega)]
theorem own_okC3 {E P U nd A K : Nat} (hE : E = A + own_S P + nd) (h1 : A ≤ K) (h2 : K < E) (hp : 0 < P) (h : E - 1 - K = P) : own_F4 E P U nd K = 46 := by
  unfold own_F4 own_at
  rw [if_pos (by omega), if_neg (by omega), if_pos h]
theorem own_okd {b dg : Int32} {d units p : Int64} {U t K : Nat} {F : Int32} (hb : b = F) (hF : F = own_ch (U / 10 ^ t)) (hU : units.toInt = (U : Int)) (ht : t < 19) (hp : p = own_pw t) (hd : d = ((units / p) - ((units / p) / 10) * 10)) : b = (((48 : Int64) + d).toInt32).toInt8.toInt32 := by
  subst hp
  rw [hb, hF, hd]
  exact (own_dig (own_divN hU (own_pw_int ht))).symm
/-- how many of the powers 10, .., 10^n are not above U, and one -/
def own_g (U : Nat) : Nat → Nat
  | 0 => 1
  | n + 1 => own_g U n + (if U < 10 ^ (n + 1) then 0 else 1)
theorem own_g_spec (U : Nat) : ∀ n, 1 ≤ own_g U n ∧ own_g U n ≤ n + 1 ∧ (∀ t, 1 ≤ t → t < own_g U n → 10 ^ t ≤ U) ∧ (∀ t, own_g U n ≤ t → t ≤ n → U < 10 ^ t)
  | 0 => ⟨Nat.le_refl _, Nat.le_refl _, fun t h1 h2 => by have : t < 1 := h2; omega, fun t h1 h2 => by have : 1 ≤ t := h1; omega⟩
  | n + 1 => by
    obtain ⟨h1, h2, h3, h4⟩ := own_g_spec U n
    by_cases c : U < 10 ^ (n + 1)
    · have e : own_g U (n + 1) = own_g U n := by
        show own_g U n + (if U < 10 ^ (n + 1) then 0 else 1) = _
        rw [if_pos c]
        rfl
      rw [e]
      refine ⟨h1, by omega, h3, fun t q1 q2 => ?_⟩
      by_cases q : t = n + 1
      · rw [q]
        exact c
      · exact h4 t q1 (by omega)
    · have e : own_g U (n + 1) = own_g U n + 1 := by
        show own_g U n + (if U < 10 ^ (n + 1) then 0 else 1) = _
        rw [if_neg c]
      have hg : own_g U n = n + 1 := by
        refine Nat.le_antisymm h2 (Nat.le_of_not_lt fun q => ?_)
        have h5 := h4 n (by omega) (Nat.le_refl _)
        have h6 : 10 ^ n ≤ 10 ^ (n + 1) := Nat.pow_le_pow_right (by decide) (by omega)
        omega
      rw [e, hg]
      refine ⟨by omega, Nat.le_refl _, fun t q1 q2 => ?_, fun t q1 q2 => by omega⟩
      exact Nat.le_trans (Nat.pow_le_pow_right (by decide) (by omega)) (Nat.le_of_not_lt c)
theorem own_g_nd {U : Nat} (hU : U < 2 ^ 63) : own_ND U 0 (own_g U 18) := by
  obtain ⟨h1, h2, h3, h4⟩ := own_g_spec U 18
  refine ⟨h1, fun t q1 q2 => ?_, ?_⟩
  · rw [Nat.zero_add]
    have h5 := h3 t q1 q2
    exact Nat.ne_of_gt (Nat.div_pos h5 (Nat.pow_pos (by decide)))
  · rw [Nat.zero_add]
    refine Nat.div_eq_of_lt ?_
    by_cases q : own_g U 18 ≤ 18
    · exact h4 _ (Nat.le_refl _) q
    · have e : own_g U 18 = 19 := by omega
      rw [e]
      exact Nat.lt_of_lt_of_le hU (by decide)
theorem own_nd_rel {U P d nd : Nat} (h0 : own_ND U 0 d) (h1 : own_ND U P nd) : nd = if d ≤ P then 1 else d - P := by
  obtain ⟨a1, a2, a3⟩ := h0
  obtain ⟨b1, b2, b3⟩ := h1
  simp only [Nat.zero_add] at a2 a3
  have mono : ∀ i j, i ≤ j → U / 10 ^ i = 0 → U / 10 ^ j = 0 := fun i j hij h => by
    have q := Nat.div_le_div_left (a := U) (Nat.pow_le_pow_right (n := 10) (by decide) hij) (Nat.pow_pos (by decide))
    rw [h] at q
    exact Nat.eq_zero_of_le_zero q
  split
  · rename_i c
    refine Nat.le_antisymm (Nat.le_of_not_lt fun q => b2 1 (Nat.le_refl _) q (mono d (P + 1) (by omega) a3)) b1
  · rename_i c
    have h2 : nd ≤ d - P := by
      refine Nat.le_of_not_lt fun q => ?_
      refine b2 (d - P) (by omega) q ?_
      rw [(by omega : P + (d - P) = d)]
      exact a3
    have h3 : d - P ≤ nd := by
      refine Nat.le_of_not_lt fun q => ?_
      exact a2 (P + nd) (by omega) (by omega) b3
    omega

def own_ge (v0 : Int64) (i0 : Int32) : Int32 := (if v0 < (own_pw i0.toInt.toNat) then (0 : Int32) else (1 : Int32))
abbrev y1 : MethodName := ⟨"com/example/voxweight/voxweight/io/DecimalsWriteDigitsPinLaw", "ge", "(J[JI)I"⟩
abbrev r1 : Room := { frames := 0, cells := 0, slots := 0, locals := 0 }
set_option maxRecDepth 65536 in
set_option maxHeartbeats 40000000 in
theorem rm1 (l : Launch) (Z : State) (a0 : Array Value) (hw : ∀ d ∈ tables_1, d.before a0 Z = true) (ws : List Jvm.Cond) (h0 : Heap) (n0 : Nat) (v0 : Int64) (aP : Addr) (i0 : Int32)   (A_p : AA Z h0 aP .long 19 (fun i => .long (own_pw i))) (hi0 : 0 ≤ i0.toInt) (hi1 : i0.toInt < 19) :
    MetFree l y1 (head1 (Jvm.Cond.code y1 method_3_code 4 (some .int) :: ws) r1) (fun a U => a = #[(.long v0), (.ref aP), (.int i0)] ∧ Z.Warmed39 U.vm ∧ U.heap = h0) (fun _ _ _ _ _ => True) (fun _ U o U' => ∃ v L, o = .returned v ∧ PQ (some (.int (own_ge v0 i0))) h0 n0 v U'.heap L ∧ FrameEnd U o U' L r1.cells r1.slots) := by
  refine met_of (Z := Z) (n0 := n0) (Ls := #[.val (.long v0), .second, .val (.ref aP), .val (.int i0)]) (plainFor_of_name (by first | (simp [plainName, overriddenIn]; done) | decide +kernel)) (fun m => by first | (simp [entryFrame, mkF, argsToLocals, Value.category]; done) | rfl) ?_
  intro p e s m below meth c T0 E hE X0
  refine go_lloadN X0 d1_0 rfl 1 rfl ?_
  refine go_aloadN X0 d1_1 rfl rfl 2 rfl ?_
  refine go_iloadN X0 d1_2 rfl 3 rfl ?_
  refine go_getJ X0 A_p hi0 hi1 rfl d1_3 4 rfl ?_
  refine go_lif X0 5 8 12 d1_4 rfl d1_5 rfl (by decide) (by decide) ?_ ?_
  · intro (c1 : v0 < (own_pw i0.toInt.toNat))
    refine go_iconst X0 (0 : Int32) d1_12 (by decide) 13 rfl ?_
    exact go_retI X0 hE d1_13 (fun L N => ⟨by rw [own_ge, if_pos c1], N, rfl⟩) (by decide) (by decide)
  intro (c1 : ¬ (v0 < (own_pw i0.toInt.toNat)))
  refine go_iconst X0 (1 : Int32) d1_8 (by decide) 9 rfl ?_
  refine go_goto X0 13 d1_9 (by decide) (by decide) ?_
  exact go_retI X0 hE d1_13 (fun L N => ⟨by rw [own_ge, if_neg c1], N, rfl⟩) (by decide) (by decide)
def own_digits (v0 : Int64) : Int32 := (((((((((((((((((((1 : Int32) + (own_ge v0 (1 : Int32))) + (own_ge v0 (2 : Int32))) + (own_ge v0 (3 : Int32))) + (own_ge v0 (4 : Int32))) + (own_ge v0 (5 : Int32))) + (own_ge v0 (6 : Int32))) + (own_ge v0 (7 : Int32))) + (own_ge v0 (8 : Int32))) + (own_ge v0 (9 : Int32))) + (own_ge v0 (10 : Int32))) + (own_ge v0 (11 : Int32))) + (own_ge v0 (12 : Int32))) + (own_ge v0 (13 : Int32))) + (own_ge v0 (14 : Int32))) + (own_ge v0 (15 : Int32))) + (own_ge v0 (16 : Int32))) + (own_ge v0 (17 : Int32))) + (own_ge v0 (18 : Int32)))
abbrev y2 : MethodName := ⟨"com/example/voxweight/voxweight/io/DecimalsWriteDigitsPinLaw", "digits", "(J[J)I"⟩
abbrev r2 : Room := { frames := 1, cells := 0, slots := 0, locals := 16 }
set_option maxRecDepth 65536 in
set_option maxHeartbeats 40000000 in
theorem rm2 (l : Launch) (Z : State) (a0 : Array Value) (hw : ∀ d ∈ tables_1, d.before a0 Z = true) (ws : List Jvm.Cond) (h0 : Heap) (n0 : Nat) (v0 : Int64) (aP : Addr)   (A_p : AA Z h0 aP .long 19 (fun i => .long (own_pw i))) :
    MetFree l y2 (head1 (Jvm.Cond.code y2 method_4_code 3 (some .int) :: ws) r2) (fun a U => a = #[(.long v0), (.ref aP)] ∧ Z.Warmed39 U.vm ∧ U.heap = h0) (fun _ _ _ _ _ => True) (fun _ U o U' => ∃ v L, o = .returned v ∧ PQ (some (.int (own_digits v0))) h0 n0 v U'.heap L ∧ FrameEnd U o U' L r2.cells r2.slots) := by
  refine met_of (Z := Z) (n0 := n0) (Ls := #[.val (.long v0), .second, .val (.ref aP)]) (plainFor_of_name (by first | (simp [plainName, overriddenIn]; done) | decide +kernel)) (fun m => by first | (simp [entryFrame, mkF, argsToLocals, Value.category]; done) | rfl) ?_
  intro p e s m below meth c T0 E hE X0
  refine go_iconst X0 (1 : Int32) d2_0 (by decide) 1 rfl ?_
  refine go_lloadN X0 d2_1 rfl 2 rfl ?_
  refine go_aloadN X0 d2_2 rfl rfl 3 rfl ?_
  refine go_iconst X0 (1 : Int32) d2_3 (by decide) 4 rfl ?_
  refine go_callS X0 1 [(.long v0), (.ref aP), (.int (1 : Int32))] [(.int (1 : Int32))] (wd25 hw) (wd26 hw) (wd23 hw) (wd27 hw) (by decide) (rm1 l Z a0 hw [] h0 n0 v0 aP (1 : Int32)  A_p (by decide) (by decide)) (by decide) (by decide) rfl (lenOf pd_0 rfl) rfl rfl (Nat.le_of_eq rfl) d2_4 (by decide) (by decide) 7 rfl PQ.fr (PQ.k (fun T1 X1 => ?_))
  show Go p e below E m T1 7 #[.val (.long v0), .second, .val (.ref aP)] [(.int (own_ge v0 (1 : Int32))), (.int (1 : Int32))]
  refine go_iadd X1 d2_7 8 rfl ?_
  refine go_lloadN X1 d2_8 rfl 9 rfl ?_
  refine go_aloadN X1 d2_9 rfl rfl 10 rfl ?_
  refine go_iconst X1 (2 : Int32) d2_10 (by decide) 11 rfl ?_
  refine go_callS X1 1 [(.long v0), (.ref aP), (.int (2 : Int32))] [(.int ((1 : Int32) + (own_ge v0 (1 : Int32))))] (wd25 hw) (wd26 hw) (wd23 hw) (wd27 hw) (by decide) (rm1 l Z a0 hw [] h0 n0 v0 aP (2 : Int32)  A_p (by decide) (by decide)) (by decide) (by decide) rfl (lenOf pd_0 rfl) rfl rfl (Nat.le_of_eq rfl) d2_11 (by decide) (by decide) 14 rfl PQ.fr (PQ.k (fun T2 X2 => ?_))
  show Go p e below E m T2 14 #[.val (.long v0), .second, .val (.ref aP)] [(.int (own_ge v0 (2 : Int32))), (.int ((1 : Int32) + (own_ge v0 (1 : Int32))))]
  refine go_iadd X2 d2_14 15 rfl ?_
  refine go_lloadN X2 d2_15 rfl 16 rfl ?_
  refine go_aloadN X2 d2_16 rfl rfl 17 rfl ?_
  refine go_iconst X2 (3 : Int32) d2_17 (by decide) 18 rfl ?_
  refine go_callS X2 1 [(.long v0), (.ref aP), (.int (3 : Int32))] [(.int (((1 : Int32) + (own_ge v0 (1 : Int32))) + (own_ge v0 (2 : Int32))))] (wd25 hw) (wd26 hw) (wd23 hw) (wd27 hw) (by decide) (rm1 l Z a0 hw [] h0 n0 v0 aP (3 : Int32)  A_p (by decide) (by decide)) (by decide) (by decide) rfl (lenOf pd_0 rfl) rfl rfl (Nat.le_of_eq rfl) d2_18 (by decide) (by decide) 21 rfl PQ.fr (PQ.k (fun T3 X3 => ?_))
  show Go p e below E m T3 21 #[.val (.long v0), .second, .val (.ref aP)] [(.int (own_ge v0 (3 : Int32))), (.int (((1 : Int32) + (own_ge v0 (1 : Int32))) + (own_ge v0 (2 : Int32))))]
  refine go_iadd X3 d2_21 22 rfl ?_
  refine go_lloadN X3 d2_22 rfl 23 rfl ?_
  refine go_aloadN X3 d2_23 rfl rfl 24 rfl ?_
  refine go_iconst X3 (4 : Int32) d2_24 (by decide) 25 rfl ?_
  refine go_callS X3 1 [(.long v0), (.ref aP), (.int (4 : Int32))] [(.int ((((1 : Int32) + (own_ge v0 (1 : Int32))) + (own_ge v0 (2 : Int32))) + (own_ge v0 (3 : Int32))))] (wd25 hw) (wd26 hw) (wd23 hw) (wd27 hw) (by decide) (rm1 l Z a0 hw [] h0 n0 v0 aP (4 : Int32)  A_p (by decide) (by decide)) (by decide) (by decide) rfl (lenOf pd_0 rfl) rfl rfl (Nat.le_of_eq rfl) d2_25 (by decide) (by decide) 28 rfl PQ.fr (PQ.k (fun T4 X4 => ?_))
  show Go p e below E m T4 28 #[.val (.long v0), .second, .val (.ref aP)] [(.int (own_ge v0 (4 : Int32))), (.int ((((1 : Int32) + (own_ge v0 (1 : Int32))) + (own_ge v0 (2 : Int32))) + (own_ge v0 (3 : Int32))))]
  refine go_iadd X4 d2_28 29 rfl ?_
  refine go_lloadN X4 d2_29 rfl 30 rfl ?_
  refine go_aloadN X4 d2_30 rfl rfl 31 rfl ?_
  refine go_iconst X4 (5 : Int32) d2_31 (by decide) 32 rfl ?_
  refine go_callS X4 1 [(.long v0), (.ref aP), (.int (5 : Int32))] [(.int (((((1 : Int32) + (own_ge v0 (1 : Int32))) + (own_ge v0 (2 : Int32))) + (own_ge v0 (3 : Int32))) + (own_ge v0 (4 : Int32))))] (wd25 hw) (wd26 hw) (wd23 hw) (wd27 hw) (by decide) (rm1 l Z a0 hw [] h0 n0 v0 aP (5 : Int32)  A_p (by decide) (by decide)) (by decide) (by decide) rfl (lenOf pd_0 rfl) rfl rfl (Nat.le_of_eq rfl) d2_32 (by decide) (by decide) 35 rfl PQ.fr (PQ.k (fun T5 X5 => ?_))
  show Go p e below E m T5 35 #[.val (.long v0), .second, .val (.ref aP)] [(.int (own_ge v0 (5 : Int32))), (.int (((((1 : Int32) + (own_ge v0 (1 : Int32))) + (own_ge v0 (2 : Int32))) + (own_ge v0 (3 : Int32))) + (own_ge v0 (4 : Int32))))]
  refine go_iadd X5 d2_35 36 rfl ?_
  refine go_lloadN X5 d2_36 rfl 37 rfl ?_
  refine go_aloadN X5 d2_37 rfl rfl 38 rfl ?_
  refine go_bipush X5 (6 : Int32) d2_38 (by decide) 40 rfl ?_
  refine go_callS X5 1 [(.long v0), (.ref aP), (.int (6 : Int32))] [(.int ((((((1 : Int32) + (own_ge v0 (1 : Int32))) + (own_ge v0 (2 : Int32))) + (own_ge v0 (3 : Int32))) + (own_ge v0 (4 : Int32))) + (own_ge v0 (5 : Int32))))] (wd25 hw) (wd26 hw) (wd23 hw) (wd27 hw) (by decide) (rm1 l Z a0 hw [] h0 n0 v0 aP (6 : Int32)  A_p (by decide) (by decide)) (by decide) (by decide) rfl (lenOf pd_0 rfl) rfl rfl (Nat.le_of_eq rfl) d2_40 (by decide) (by decide) 43 rfl PQ.fr (PQ.k (fun T6 X6 => ?_))
  show Go p e below E m T6 43 #[.val (.long v0), .second, .val (.ref aP)] [(.int (own_ge v0 (6 : Int32))), (.int ((((((1 : Int32) + (own_ge v0 (1 : Int32))) + (own_ge v0 (2 : Int32))) + (own_ge v0 (3 : Int32))) + (own_ge v0 (4 : Int32))) + (own_ge v0 (5 : Int32))))]
  refine go_iadd X6 d2_43 44 rfl ?_
  refine go_lloadN X6 d2_44 rfl 45 rfl ?_
  refine go_aloadN X6 d2_45 rfl rfl 46 rfl ?_
  refine go_bipush X6 (7 : Int32) d2_46 (by decide) 48 rfl ?_
  refine go_callS X6 1 [(.long v0), (.ref aP), (.int (7 : Int32))] [(.int (((((((1 : Int32) + (own_ge v0 (1 : Int32))) + (own_ge v0 (2 : Int32))) + (own_ge v0 (3 : Int32))) + (own_ge v0 (4 : Int32))) + (own_ge v0 (5 : Int32))) + (own_ge v0 (6 : Int32))))] (wd25 hw) (wd26 hw) (wd23 hw) (wd27 hw) (by decide) (rm1 l Z a0 hw [] h0 n0 v0 aP (7 : Int32)  A_p (by decide) (by decide)) (by decide) (by decide) rfl (lenOf pd_0 rfl) rfl rfl (Nat.le_of_eq rfl) d2_48 (by decide) (by decide) 51 rfl PQ.fr (PQ.k (fun T7 X7 => ?_))
  show Go p e below E m T7 51 #[.val (.long v0), .second, .val (.ref aP)] [(.int (own_ge v0 (7 : Int32))), (.int (((((((1 : Int32) + (own_ge v0 (1 : Int32))) + (own_ge v0 (2 : Int32))) + (own_ge v0 (3 : Int32))) + (own_ge v0 (4 : Int32))) + (own_ge v0 (5 : Int32))) + (own_ge v0 (6 : Int32))))]
  refine go_iadd X7 d2_51 52 rfl ?_
  refine go_lloadN X7 d2_52 rfl 53 rfl ?_
  refine go_aloadN X7 d2_53 rfl rfl 54 rfl ?_
  refine go_bipush X7 (8 : Int32) d2_54 (by decide) 56 rfl ?_
  refine go_callS X7 1 [(.long v0), (.ref aP), (.int (8 : Int32))] [(.int ((((((((1 : Int32) + (own_ge v0 (1 : Int32))) + (own_ge v0 (2 : Int32))) + (own_ge v0 (3 : Int32))) + (own_ge v0 (4 : Int32))) + (own_ge v0 (5 : Int32))) + (own_ge v0 (6 : Int32))) + (own_ge v0 (7 : Int32))))] (wd25 hw) (wd26 hw) (wd23 hw) (wd27 hw) (by decide) (rm1 l Z a0 hw [] h0 n0 v0 aP (8 : Int32)  A_p (by decide) (by decide)) (by decide) (by decide) rfl (lenOf pd_0 rfl) rfl rfl (Nat.le_of_eq rfl) d2_56 (by decide) (by decide) 59 rfl PQ.fr (PQ.k (fun T8 X8 => ?_))
  show Go p e below E m T8 59 #[.val (.long v0), .second, .val (.ref aP)] [(.int (own_ge v0 (8 : Int32))), (.int ((((((((1 : Int32) + (own_ge v0 (1 : Int32))) + (own_ge v0 (2 : Int32))) + (own_ge v0 (3 : Int32))) + (own_ge v0 (4 : Int32))) + (own_ge v0 (5 : Int32))) + (own_ge v0 (6 : Int32))) + (own_ge v0 (7 : Int32))))]
  refine go_iadd X8 d2_59 60 rfl ?_
  refine go_lloadN X8 d2_60 rfl 61 rfl ?_
  refine go_aloadN X8 d2_61 rfl rfl 62 rfl ?_
  refine go_bipush X8 (9 : Int32) d2_62 (by decide) 64 rfl ?_
  refine go_callS X8 1 [(.long v0), (.ref aP), (.int (9 : Int32))] [(.int (((((((((1 : Int32) + (own_ge v0 (1 : Int32))) + (own_ge v0 (2 : Int32))) + (own_ge v0 (3 : Int32))) + (own_ge v0 (4 : Int32))) + (own_ge v0 (5 : Int32))) + (own_ge v0 (6 : Int32))) + (own_ge v0 (7 : Int32))) + (own_ge v0 (8 : Int32))))] (wd25 hw) (wd26 hw) (wd23 hw) (wd27 hw) (by decide) (rm1 l Z a0 hw [] h0 n0 v0 aP (9 : Int32)  A_p (by decide) (by decide)) (by decide) (by decide) rfl (lenOf pd_0 rfl) rfl rfl (Nat.le_of_eq rfl) d2_64 (by decide) (by decide) 67 rfl PQ.fr (PQ.k (fun T9 X9 => ?_))
  show Go p e below E m T9 67 #[.val (.long v0), .second, .val (.ref aP)] [(.int (own_ge v0 (9 : Int32))), (.int (((((((((1 : Int32) + (own_ge v0 (1 : Int32))) + (own_ge v0 (2 : Int32))) + (own_ge v0 (3 : Int32))) + (own_ge v0 (4 : Int32))) + (own_ge v0 (5 : Int32))) + (own_ge v0 (6 : Int32))) + (own_ge v0 (7 : Int32))) + (own_ge v0 (8 : Int32))))]
  refine go_iadd X9 d2_67 68 rfl ?_
  refine go_lloadN X9 d2_68 rfl 69 rfl ?_
  refine go_aloadN X9 d2_69 rfl rfl 70 rfl ?_
  refine go_bipush X9 (10 : Int32) d2_70 (by decide) 72 rfl ?_
  refine go_callS X9 1 [(.long v0), (.ref aP), (.int (10 : Int32))] [(.int ((((((((((1 : Int32) + (own_ge v0 (1 : Int32))) + (own_ge v0 (2 : Int32))) + (own_ge v0 (3 : Int32))) + (own_ge v0 (4 : Int32))) + (own_ge v0 (5 : Int32))) + (own_ge v0 (6 : Int32))) + (own_ge v0 (7 : Int32))) + (own_ge v0 (8 : Int32))) + (own_ge v0 (9 : Int32))))] (wd25 hw) (wd26 hw) (wd23 hw) (wd27 hw) (by decide) (rm1 l Z a0 hw [] h0 n0 v0 aP (10 : Int32)  A_p (by decide) (by decide)) (by decide) (by decide) rfl (lenOf pd_0 rfl) rfl rfl (Nat.le_of_eq rfl) d2_72 (by decide) (by decide) 75 rfl PQ.fr (PQ.k (fun T10 X10 => ?_))
  show Go p e below E m T10 75 #[.val (.long v0), .second, .val (.ref aP)] [(.int (own_ge v0 (10 : Int32))), (.int ((((((((((1 : Int32) + (own_ge v0 (1 : Int32))) + (own_ge v0 (2 : Int32))) + (own_ge v0 (3 : Int32))) + (own_ge v0 (4 : Int32))) + (own_ge v0 (5 : Int32))) + (own_ge v0 (6 : Int32))) + (own_ge v0 (7 : Int32))) + (own_ge v0 (8 : Int32))) + (own_ge v0 (9 : Int32))))]
  refine go_iadd X10 d2_75 76 rfl ?_
  refine go_lloadN X10 d2_76 rfl 77 rfl ?_
  refine go_aloadN X10 d2_77 rfl rfl 78 rfl ?_
  refine go_bipush X10 (11 : Int32) d2_78 (by decide) 80 rfl ?_
  refine go_callS X10 1 [(.long v0), (.ref aP), (.int (11 : Int32))] [(.int (((((((((((1 : Int32) + (own_ge v0 (1 : Int32))) + (own_ge v0 (2 : Int32))) + (own_ge v0 (3 : Int32))) + (own_ge v0 (4 : Int32))) + (own_ge v0 (5 : Int32))) + (own_ge v0 (6 : Int32))) + (own_ge v0 (7 : Int32))) + (own_ge v0 (8 : Int32))) + (own_ge v0 (9 : Int32))) + (own_ge v0 (10 : Int32))))] (wd25 hw) (wd26 hw) (wd23 hw) (wd27 hw) (by decide) (rm1 l Z a0 hw [] h0 n0 v0 aP (11 : Int32)  A_p (by decide) (by decide)) (by decide) (by decide) rfl (lenOf pd_0 rfl) rfl rfl (Nat.le_of_eq rfl) d2_80 (by decide) (by decide) 83 rfl PQ.fr (PQ.k (fun T11 X11 => ?_))
  show Go p e below E m T11 83 #[.val (.long v0), .second, .val (.ref aP)] [(.int (own_ge v0 (11 : Int32))), (.int (((((((((((1 : Int32) + (own_ge v0 (1 : Int32))) + (own_ge v0 (2 : Int32))) + (own_ge v0 (3 : Int32))) + (own_ge v0 (4 : Int32))) + (own_ge v0 (5 : Int32))) + (own_ge v0 (6 : Int32))) + (own_ge v0 (7 : Int32))) + (own_ge v0 (8 : Int32))) + (own_ge v0 (9 : Int32))) + (own_ge v0 (10 : Int32))))]
  refine go_iadd X11 d2_83 84 rfl ?_
  refine go_lloadN X11 d2_84 rfl 85 rfl ?_
  refine go_aloadN X11 d2_85 rfl rfl 86 rfl ?_
  refine go_bipush X11 (12 : Int32) d2_86 (by decide) 88 rfl ?_
  refine go_callS X11 1 [(.long v0), (.ref aP), (.int (12 : Int32))] [(.int ((((((((((((1 : Int32) + (own_ge v0 (1 : Int32))) + (own_ge v0 (2 : Int32))) + (own_ge v0 (3 : Int32))) + (own_ge v0 (4 : Int32))) + (own_ge v0 (5 : Int32))) + (own_ge v0 (6 : Int32))) + (own_ge v0 (7 : Int32))) + (own_ge v0 (8 : Int32))) + (own_ge v0 (9 : Int32))) + (own_ge v0 (10 : Int32))) + (own_ge v0 (11 : Int32))))] (wd25 hw) (wd26 hw) (wd23 hw) (wd27 hw) (by decide) (rm1 l Z a0 hw [] h0 n0 v0 aP (12 : Int32)  A_p (by decide) (by decide)) (by decide) (by decide) rfl (lenOf pd_0 rfl) rfl rfl (Nat.le_of_eq rfl) d2_88 (by decide) (by decide) 91 rfl PQ.fr (PQ.k (fun T12 X12 => ?_))
  show Go p e below E m T12 91 #[.val (.long v0), .second, .val (.ref aP)] [(.int (own_ge v0 (12 : Int32))), (.int ((((((((((((1 : Int32) + (own_ge v0 (1 : Int32))) + (own_ge v0 (2 : Int32))) + (own_ge v0 (3 : Int32))) + (own_ge v0 (4 : Int32))) + (own_ge v0 (5 : Int32))) + (own_ge v0 (6 : Int32))) + (own_ge v0 (7 : Int32))) + (own_ge v0 (8 : Int32))) + (own_ge v0 (9 : Int32))) + (own_ge v0 (10 : Int32))) + (own_ge v0 (11 : Int32))))]
  refine go_iadd X12 d2_91 92 rfl ?_
  refine go_lloadN X12 d2_92 rfl 93 rfl ?_
  refine go_aloadN X12 d2_93 rfl rfl 94 rfl ?_
  refine go_bipush X12 (13 : Int32) d2_94 (by decide) 96 rfl ?_
  refine go_callS X12 1 [(.long v0), (.ref aP), (.int (13 : Int32))] [(.int (((((((((((((1 : Int32) + (own_ge v0 (1 : Int32))) + (own_ge v0 (2 : Int32))) + (own_ge v0 (3 : Int32))) + (own_ge v0 (4 : Int32))) + (own_ge v0 (5 : Int32))) + (own_ge v0 (6 : Int32))) + (own_ge v0 (7 : Int32))) + (own_ge v0 (8 : Int32))) + (own_ge v0 (9 : Int32))) + (own_ge v0 (10 : Int32))) + (own_ge v0 (11 : Int32))) + (own_ge v0 (12 : Int32))))] (wd25 hw) (wd26 hw) (wd23 hw) (wd27 hw) (by decide) (rm1 l Z a0 hw [] h0 n0 v0 aP (13 : Int32)  A_p (by decide) (by decide)) (by decide) (by decide) rfl (lenOf pd_0 rfl) rfl rfl (Nat.le_of_eq rfl) d2_96 (by decide) (by decide) 99 rfl PQ.fr (PQ.k (fun T13 X13 => ?_))
  show Go p e below E m T13 99 #[.val (.long v0), .second, .val (.ref aP)] [(.int (own_ge v0 (13 : Int32))), (.int (((((((((((((1 : Int32) + (own_ge v0 (1 : Int32))) + (own_ge v0 (2 : Int32))) + (own_ge v0 (3 : Int32))) + (own_ge v0 (4 : Int32))) + (own_ge v0 (5 : Int32))) + (own_ge v0 (6 : Int32))) + (own_ge v0 (7 : Int32))) + (own_ge v0 (8 : Int32))) + (own_ge v0 (9 : Int32))) + (own_ge v0 (10 : Int32))) + (own_ge v0 (11 : Int32))) + (own_ge v0 (12 : Int32))))]
  refine go_iadd X13 d2_99 100 rfl ?_
  refine go_lloadN X13 d2_100 rfl 101 rfl ?_
  refine go_aloadN X13 d2_101 rfl rfl 102 rfl ?_
  refine go_bipush X13 (14 : Int32) d2_102 (by decide) 104 rfl ?_
  refine go_callS X13 1 [(.long v0), (.ref aP), (.int (14 : Int32))] [(.int ((((((((((((((1 : Int32) + (own_ge v0 (1 : Int32))) + (own_ge v0 (2 : Int32))) + (own_ge v0 (3 : Int32))) + (own_ge v0 (4 : Int32))) + (own_ge v0 (5 : Int32))) + (own_ge v0 (6 : Int32))) + (own_ge v0 (7 : Int32))) + (own_ge v0 (8 : Int32))) + (own_ge v0 (9 : Int32))) + (own_ge v0 (10 : Int32))) + (own_ge v0 (11 : Int32))) + (own_ge v0 (12 : Int32))) + (own_ge v0 (13 : Int32))))] (wd25 hw) (wd26 hw) (wd23 hw) (wd27 hw) (by decide) (rm1 l Z a0 hw [] h0 n0 v0 aP (14 : Int32)  A_p (by decide) (by decide)) (by decide) (by decide) rfl (lenOf pd_0 rfl) rfl rfl (Nat.le_of_eq rfl) d2_104 (by decide) (by decide) 107 rfl PQ.fr (PQ.k (fun T14 X14 => ?_))
  show Go p e below E m T14 107 #[.val (.long v0), .second, .val (.ref aP)] [(.int (own_ge v0 (14 : Int32))), (.int ((((((((((((((1 : Int32) + (own_ge v0 (1 : Int32))) + (own_ge v0 (2 : Int32))) + (own_ge v0 (3 : Int32))) + (own_ge v0 (4 : Int32))) + (own_ge v0 (5 : Int32))) + (own_ge v0 (6 : Int32))) + (own_ge v0 (7 : Int32))) + (own_ge v0 (8 : Int32))) + (own_ge v0 (9 : Int32))) + (own_ge v0 (10 : Int32))) + (own_ge v0 (11 : Int32))) + (own_ge v0 (12 : Int32))) + (own_ge v0 (13 : Int32))))]
  refine go_iadd X14 d2_107 108 rfl ?_
  refine go_lloadN X14 d2_108 rfl 109 rfl ?_
  refine go_aloadN X14 d2_109 rfl rfl 110 rfl ?_
  refine go_bipush X14 (15 : Int32) d2_110 (by decide) 112 rfl ?_
  refine go_callS X14 1 [(.long v0), (.ref aP), (.int (15 : Int32))] [(.int (((((((((((((((1 : Int32) + (own_ge v0 (1 : Int32))) + (own_ge v0 (2 : Int32))) + (own_ge v0 (3 : Int32))) + (own_ge v0 (4 : Int32))) + (own_ge v0 (5 : Int32))) + (own_ge v0 (6 : Int32))) + (own_ge v0 (7 : Int32))) + (own_ge v0 (8 : Int32))) + (own_ge v0 (9 : Int32))) + (own_ge v0 (10 : Int32))) + (own_ge v0 (11 : Int32))) + (own_ge v0 (12 : Int32))) + (own_ge v0 (13 : Int32))) + (own_ge v0 (14 : Int32))))] (wd25 hw) (wd26 hw) (wd23 hw) (wd27 hw) (by decide) (rm1 l Z a0 hw [] h0 n0 v0 aP (15 : Int32)  A_p (by decide) (by decide)) (by decide) (by decide) rfl (lenOf pd_0 rfl) rfl rfl (Nat.le_of_eq rfl) d2_112 (by decide) (by decide) 115 rfl PQ.fr (PQ.k (fun T15 X15 => ?_))
  show Go p e below E m T15 115 #[.val (.long v0), .second, .val (.ref aP)] [(.int (own_ge v0 (15 : Int32))), (.int (((((((((((((((1 : Int32) + (own_ge v0 (1 : Int32))) + (own_ge v0 (2 : Int32))) + (own_ge v0 (3 : Int32))) + (own_ge v0 (4 : Int32))) + (own_ge v0 (5 : Int32))) + (own_ge v0 (6 : Int32))) + (own_ge v0 (7 : Int32))) + (own_ge v0 (8 : Int32))) + (own_ge v0 (9 : Int32))) + (own_ge v0 (10 : Int32))) + (own_ge v0 (11 : Int32))) + (own_ge v0 (12 : Int32))) + (own_ge v0 (13 : Int32))) + (own_ge v0 (14 : Int32))))]
  refine go_iadd X15 d2_115 116 rfl ?_
  refine go_lloadN X15 d2_116 rfl 117 rfl ?_
  refine go_aloadN X15 d2_117 rfl rfl 118 rfl ?_
  refine go_bipush X15 (16 : Int32) d2_118 (by decide) 120 rfl ?_
  refine go_callS X15 1 [(.long v0), (.ref aP), (.int (16 : Int32))] [(.int ((((((((((((((((1 : Int32) + (own_ge v0 (1 : Int32))) + (own_ge v0 (2 : Int32))) + (own_ge v0 (3 : Int32))) + (own_ge v0 (4 : Int32))) + (own_ge v0 (5 : Int32))) + (own_ge v0 (6 : Int32))) + (own_ge v0 (7 : Int32))) + (own_ge v0 (8 : Int32))) + (own_ge v0 (9 : Int32))) + (own_ge v0 (10 : Int32))) + (own_ge v0 (11 : Int32))) + (own_ge v0 (12 : Int32))) + (own_ge v0 (13 : Int32))) + (own_ge v0 (14 : Int32))) + (own_ge v0 (15 : Int32))))] (wd25 hw) (wd26 hw) (wd23 hw) (wd27 hw) (by decide) (rm1 l Z a0 hw [] h0 n0 v0 aP (16 : Int32)  A_p (by decide) (by decide)) (by decide) (by decide) rfl (lenOf pd_0 rfl) rfl rfl (Nat.le_of_eq rfl) d2_120 (by decide) (by decide) 123 rfl PQ.fr (PQ.k (fun T16 X16 => ?_))
  show Go p e below E m T16 123 #[.val (.long v0), .second, .val (.ref aP)] [(.int (own_ge v0 (16 : Int32))), (.int ((((((((((((((((1 : Int32) + (own_ge v0 (1 : Int32))) + (own_ge v0 (2 : Int32))) + (own_ge v0 (3 : Int32))) + (own_ge v0 (4 : Int32))) + (own_ge v0 (5 : Int32))) + (own_ge v0 (6 : Int32))) + (own_ge v0 (7 : Int32))) + (own_ge v0 (8 : Int32))) + (own_ge v0 (9 : Int32))) + (own_ge v0 (10 : Int32))) + (own_ge v0 (11 : Int32))) + (own_ge v0 (12 : Int32))) + (own_ge v0 (13 : Int32))) + (own_ge v0 (14 : Int32))) + (own_ge v0 (15 : Int32))))]
  refine go_iadd X16 d2_123 124 rfl ?_
  refine go_lloadN X16 d2_124 rfl 125 rfl ?_
  refine go_aloadN X16 d2_125 rfl rfl 126 rfl ?_
  refine go_bipush X16 (17 : Int32) d2_126 (by decide) 128 rfl ?_
  refine go_callS X16 1 [(.long v0), (.ref aP), (.int (17 : Int32))] [(.int (((((((((((((((((1 : Int32) + (own_ge v0 (1 : Int32))) + (own_ge v0 (2 : Int32))) + (own_ge v0 (3 : Int32))) + (own_ge v0 (4 : Int32))) + (own_ge v0 (5 : Int32))) + (own_ge v0 (6 : Int32))) + (own_ge v0 (7 : Int32))) + (own_ge v0 (8 : Int32))) + (own_ge v0 (9 : Int32))) + (own_ge v0 (10 : Int32))) + (own_ge v0 (11 : Int32))) + (own_ge v0 (12 : Int32))) + (own_ge v0 (13 : Int32))) + (own_ge v0 (14 : Int32))) + (own_ge v0 (15 : Int32))) + (own_ge v0 (16 : Int32))))] (wd25 hw) (wd26 hw) (wd23 hw) (wd27 hw) (by decide) (rm1 l Z a0 hw [] h0 n0 v0 aP (17 : Int32)  A_p (by decide) (by decide)) (by decide) (by decide) rfl (lenOf pd_0 rfl) rfl rfl (Nat.le_of_eq rfl) d2_128 (by decide) (by decide) 131 rfl PQ.fr (PQ.k (fun T17 X17 => ?_))
  show Go p e below E m T17 131 #[.val (.long v0), .second, .val (.ref aP)] [(.int (own_ge v0 (17 : Int32))), (.int (((((((((((((((((1 : Int32) + (own_ge v0 (1 : Int32))) + (own_ge v0 (2 : Int32))) + (own_ge v0 (3 : Int32))) + (own_ge v0 (4 : Int32))) + (own_ge v0 (5 : Int32))) + (own_ge v0 (6 : Int32))) + (own_ge v0 (7 : Int32))) + (own_ge v0 (8 : Int32))) + (own_ge v0 (9 : Int32))) + (own_ge v0 (10 : Int32))) + (own_ge v0 (11 : Int32))) + (own_ge v0 (12 : Int32))) + (own_ge v0 (13 : Int32))) + (own_ge v0 (14 : Int32))) + (own_ge v0 (15 : Int32))) + (own_ge v0 (16 : Int32))))]
  refine go_iadd X17 d2_131 132 rfl ?_
  refine go_lloadN X17 d2_132 rfl 133 rfl ?_
  refine go_aloadN X17 d2_133 rfl rfl 134 rfl ?_
  refine go_bipush X17 (18 : Int32) d2_134 (by decide) 136 rfl ?_
  refine go_callS X17 1 [(.long v0), (.ref aP), (.int (18 : Int32))] [(.int ((((((((((((((((((1 : Int32) + (own_ge v0 (1 : Int32))) + (own_ge v0 (2 : Int32))) + (own_ge v0 (3 : Int32))) + (own_ge v0 (4 : Int32))) + (own_ge v0 (5 : Int32))) + (own_ge v0 (6 : Int32))) + (own_ge v0 (7 : Int32))) + (own_ge v0 (8 : Int32))) + (own_ge v0 (9 : Int32))) + (own_ge v0 (10 : Int32))) + (own_ge v0 (11 : Int32))) + (own_ge v0 (12 : Int32))) + (own_ge v0 (13 : Int32))) + (own_ge v0 (14 : Int32))) + (own_ge v0 (15 : Int32))) + (own_ge v0 (16 : Int32))) + (own_ge v0 (17 : Int32))))] (wd25 hw) (wd26 hw) (wd23 hw) (wd27 hw) (by decide) (rm1 l Z a0 hw [] h0 n0 v0 aP (18 : Int32)  A_p (by decide) (by decide)) (by decide) (by decide) rfl (lenOf pd_0 rfl) rfl rfl (Nat.le_of_eq rfl) d2_136 (by decide) (by decide) 139 rfl PQ.fr (PQ.k (fun T18 X18 => ?_))
  show Go p e below E m T18 139 #[.val (.long v0), .second, .val (.ref aP)] [(.int (own_ge v0 (18 : Int32))), (.int ((((((((((((((((((1 : Int32) + (own_ge v0 (1 : Int32))) + (own_ge v0 (2 : Int32))) + (own_ge v0 (3 : Int32))) + (own_ge v0 (4 : Int32))) + (own_ge v0 (5 : Int32))) + (own_ge v0 (6 : Int32))) + (own_ge v0 (7 : Int32))) + (own_ge v0 (8 : Int32))) + (own_ge v0 (9 : Int32))) + (own_ge v0 (10 : Int32))) + (own_ge v0 (11 : Int32))) + (own_ge v0 (12 : Int32))) + (own_ge v0 (13 : Int32))) + (own_ge v0 (14 : Int32))) + (own_ge v0 (15 : Int32))) + (own_ge v0 (16 : Int32))) + (own_ge v0 (17 : Int32))))]
  refine go_iadd X18 d2_139 140 rfl ?_
  exact go_retI X18 hE d2_140 (fun L N => ⟨by rw [own_digits], N, rfl⟩) (by decide) (by decide)
def own_max (x0 x1 : Int32) : Int32 := (if x0 < x1 then x1 else x0)
abbrev y3 : MethodName := ⟨"java/lang/Math", "max", "(II)I"⟩
abbrev r3 : Room := { frames := 0, cells := 0, slots := 0, locals := 0 }
set_option maxRecDepth 65536 in
set_option maxHeartbeats 40000000 in
theorem rm3 (l : Launch) (Z : State) (a0 : Array Value) (hw : ∀ d ∈ tables_1, d.before a0 Z = true) (ws : List Jvm.Cond) (h0 : Heap) (n0 : Nat) (x0 x1 : Int32)   :
    MetFree l y3 (head1 (Jvm.Cond.code y3 jdk_29_method_65_code 2 (some .int) :: ws) r3) (fun a U => a = #[(.int x0), (.int x1)] ∧ Z.Warmed39 U.vm ∧ U.heap = h0) (fun _ _ _ _ _ => True) (fun _ U o U' => ∃ v L, o = .returned v ∧ PQ (some (.int (own_max x0 x1))) h0 n0 v U'.heap L ∧ FrameEnd U o U' L r3.cells r3.slots) := by
  refine met_of (Z := Z) (n0 := n0) (Ls := #[.val (.int x0), .val (.int x1)]) (by decide +kernel) (fun m => by first | (simp [entryFrame, mkF, argsToLocals, Value.category]; done) | rfl) ?_
  intro p e s m below meth c T0 E hE X0
  refine go_iloadN X0 d3_0 rfl 1 rfl ?_
  refine go_iloadN X0 d3_1 rfl 2 rfl ?_
  refine go_icmp X0 5 9 d3_2 rfl (by decide) (by decide) ?_ ?_
  · intro (c1 : x0 < x1)
    refine go_iloadN X0 d3_9 rfl 10 rfl ?_
    exact go_retI X0 hE d3_10 (fun L N => ⟨by rw [own_max, if_pos c1], N, rfl⟩) (by decide) (by decide)
  intro (c1 : ¬ (x0 < x1))
  refine go_iloadN X0 d3_5 rfl 6 rfl ?_
  refine go_goto X0 10 d3_6 (by decide) (by decide) ?_
  exact go_retI X0 hE d3_10 (fun L N => ⟨by rw [own_max, if_neg c1], N, rfl⟩) (by decide) (by decide)
abbrev y4 : MethodName := ⟨"com/example/voxweight/voxweight/io/Decimals", "writeDigits", "([BIJI)I"⟩
abbrev r4 : Room := { frames := 0, cells := 0, slots := 0, locals := 0 }
set_option maxRecDepth 65536 in
set_option maxHeartbeats 40000000 in
theorem rm4 (l : Launch) (Z : State) (a0 : Array Value) (hw : ∀ d ∈ tables_1, d.before a0 Z = true) (ws : List Jvm.Cond) (h0 : Heap) (n0 : Nat) (aB : Addr) (at_ places : Int32) (units : Int64)   (A P Un : Nat) (hA : at_.toInt = (A : Int)) (hP : places.toInt = (P : Int)) (hU : units.toInt = (Un : Int)) (hA3 : A ≤ 3) (hP18 : P ≤ 18) (hU63 : Un < 2 ^ 63) (g_b : n0 ≤ aB) (A_b : AA Z h0 aB .byte 24 (fun _ => .int 0)) :
    MetFree l y4 (head1 (Jvm.Cond.code y4 prog_57_method_11_code 12 (some .int) :: ws) r4) (fun a U => a = #[(.ref aB), (.int at_), (.long units), (.int places)] ∧ Z.Warmed39 U.vm ∧ U.heap = h0) (fun _ _ _ _ _ => True) (fun _ U o U' => ∃ v L, o = .returned v ∧ WDQ Z h0 n0 aB A P Un v U'.heap L ∧ FrameEnd U o U' L r4.cells r4.slots) := by
  refine met_of (Z := Z) (n0 := n0) (Ls := #[.val (.ref aB), .val (.int at_), .val (.long units), .second, .val (.int places), .unset, .unset, .unset, .unset, .unset, .unset, .unset]) (plainFor_of_name (by first | (simp [plainName, overriddenIn]; done) | decide +kernel)) (fun m => by first | (simp [entryFrame, mkF, argsToLocals, Value.category]; done) | rfl) ?_
  intro p e s m below meth c T0 E hE X0
  refine go_lloadN X0 d4_0 rfl 1 rfl ?_
  refine go_lstore X0 #[.val (.ref aB), .val (.int at_), .val (.long units), .second, .val (.int places), .val (.long units), .second, .unset, .unset, .unset, .unset, .unset] d4_1 rfl 3 rfl ?_
  refine go_iconst X0 (0 : Int32) d4_3 (by decide) 4 rfl ?_
  refine go_istore X0 #[.val (.ref aB), .val (.int at_), .val (.long units), .second, .val (.int places), .val (.long units), .second, .val (.int (0 : Int32)), .unset, .unset, .unset, .unset] d4_4 rfl 6 rfl ?_
  refine go_cut (A := ∀ (T : State) (q : Int64) (i : Int32), SD p l e r4 s m #[(.ref aB), (.int at_), (.long units), (.int places)] below meth c Z y4 prog_57_method_11_code 12 (some .int) n0 T h0 0 0 → q.toInt = ((Un / 10 ^ P : Nat) : Int) → Go p e below E m T 27 #[.val (.ref aB), .val (.int at_), .val (.long units), .second, .val (.int places), .val (.long q), .second, .val (.int i), .unset, .unset, .unset, .unset] []) ?_ ?_
  · intro KX
    refine go_cut (A := ∀ (n k : Nat) (T : State) (q : Int64) (i : Int32), SD p l e r4 s m #[(.ref aB), (.int at_), (.long units), (.int places)] below meth c Z y4 prog_57_method_11_code 12 (some .int) n0 T h0 0 0 → k + n = P → q.toInt = ((Un / 10 ^ k : Nat) : Int) → i.toInt = (k : Int) → Go p e below E m T 6 #[.val (.ref aB), .val (.int at_), .val (.long units), .second, .val (.int places), .val (.long q), .second, .val (.int i), .unset, .unset, .unset, .unset] []) ?_ ?_
    · intro LP
      exact LP P 0 _ _ _ X0 (Nat.zero_add _) (by rw [hU, Nat.pow_zero, Nat.div_one]) rfl
    intro n
    induction n with
    | zero =>
      intro k T q i X hk hq hi
      have ci : ¬ (i < places) := own_nlt hi hP (by omega)
      refine go_iload X d4_6 rfl 8 rfl ?_
      refine go_iload X d4_8 rfl 10 rfl ?_
      refine go_icmp X 13 27 d4_10 rfl (by decide) (by decide) (fun _ => ?_) (fun (hh : ¬ (¬ (i < places))) => absurd (ci : ¬ (i < places)) hh)
      exact KX _ _ _ X (by rw [hq, (by omega : k = P)])
    | succ n ih =>
      intro k T q i X hk hq hi
      have ci : i < places := own_lt hi hP (by omega)
      refine go_iload X d4_6 rfl 8 rfl ?_
      refine go_iload X d4_8 rfl 10 rfl ?_
      refine go_icmp X 13 27 d4_10 rfl (by decide) (by decide) (fun (hh : ¬ (i < places)) => absurd (ci : i < places) hh) (fun _ => ?_)
      refine go_lload X d4_13 rfl 15 rfl ?_
      refine go_ldc2 X (wd37 hw) d4_15 18 rfl ?_
      refine go_ldiv X d4_18 (by decide) 19 rfl ?_
      refine go_nmL (fun v1 hv1 => ?_)
      refine go_lstore X #[.val (.ref aB), .val (.int at_), .val (.long units), .second, .val (.int places), .val (.long v1), .second, .val (.int i), .unset, .unset, .unset, .unset] d4_19 rfl 21 rfl ?_
      obtain ⟨v2, hv2⟩ : ∃ z, z = i + (1 : Int32) := ⟨_, rfl⟩
      refine go_iinc X v2 #[.val (.ref aB), .val (.int at_), .val (.long units), .second, .val (.int places), .val (.long v1), .second, .val (.int v2), .unset, .unset, .unset, .unset] d4_21 rfl hv2.symm rfl 24 rfl ?_
      refine go_goto X 6 d4_24 (by decide) (by decide) ?_
      exact ih (k + 1) _ _ _ X (by omega) (own_step10 hq hv1) (own_incI hi hv2 (by omega))
  intro T6 q6 i6 X6 hq6
  refine go_iload X6 d4_27 rfl 29 rfl ?_
  refine go_cut (A := ∀ z3 : Int32, z3 = (if places = (0 : Int32) then at_ else ((at_ + places) + (1 : Int32))) → Go p e below E m T6 42 #[.val (.ref aB), .val (.int at_), .val (.long units), .second, .val (.int places), .val (.long q6), .second, .val (.int i6), .unset, .unset, .unset, .unset] [(.int z3)]) ?_ ?_
  · intro J4
    refine go_if X6 32 36 d4_29 rfl (by decide) (by decide) ?_ ?_
    · intro (c5 : ¬ (places = (0 : Int32)))
      refine go_iloadN X6 d4_36 rfl 37 rfl ?_
      refine go_iload X6 d4_37 rfl 39 rfl ?_
      refine go_iadd X6 d4_39 40 rfl ?_
      refine go_iconst X6 (1 : Int32) d4_40 (by decide) 41 rfl ?_
      refine go_iadd X6 d4_41 42 rfl ?_
      exact J4 _ (by first | rw [if_neg c5] | simp only [c5, if_true, if_false, ite_self] | rfl)
    intro c5
    replace c5 : places = (0 : Int32) := Decidable.not_not.mp c5
    refine go_iloadN X6 d4_32 rfl 33 rfl ?_
    refine go_goto X6 42 d4_33 (by decide) (by decide) ?_
    exact J4 _ (by first | rw [if_pos c5] | simp only [c5, if_true, if_false, ite_self] | rfl)
  intro z3 hz3
  refine go_istore X6 #[.val (.ref aB), .val (.int at_), .val (.long units), .second, .val (.int places), .val (.long q6), .second, .val (.int z3), .unset, .unset, .unset, .unset] d4_42 rfl 44 rfl ?_
  have he0 : z3.toInt = ((A + own_S P : Nat) : Int) := own_e0 hA hP hA3 hP18 hz3
  refine go_cut (A := ∀ (T : State) (q : Int64) (ev : Int32) (nd : Nat), SD p l e r4 s m #[(.ref aB), (.int at_), (.long units), (.int places)] below meth c Z y4 prog_57_method_11_code 12 (some .int) n0 T h0 0 0 → own_ND Un P nd → ev.toInt = ((A + own_S P + nd : Nat) : Int) → Go p e below E m T 62 #[.val (.ref aB), .val (.int at_), .val (.long units), .second, .val (.int places), .val (.long q), .second, .val (.int ev), .unset, .unset, .unset, .unset] []) ?_ ?_
  · intro KX
    refine go_cut (A := ∀ (n c' : Nat) (T : State) (q : Int64) (ev : Int32), SD p l e r4 s m #[(.ref aB), (.int at_), (.long units), (.int places)] below meth c Z y4 prog_57_method_11_code 12 (some .int) n0 T h0 0 0 → q.toInt = ((Un / 10 ^ (P + c') : Nat) : Int) → Un / 10 ^ (P + c') ≤ n → (∀ t, 1 ≤ t → t ≤ c' → Un / 10 ^ (P + t) ≠ 0) → ev.toInt = ((A + own_S P + c' : Nat) : Int) → Go p e below E m T 44 #[.val (.ref aB), .val (.int at_), .val (.long units), .second, .val (.int places), .val (.long q), .second, .val (.int ev), .unset, .unset, .unset, .unset] []) ?_ ?_
    · intro LP
      exact LP _ 0 _ _ _ X6 hq6 (Nat.le_refl _) (fun t h1 h2 => absurd h1 (by omega)) he0
    intro n
    induction n with
    | zero =>
      intro c' T q ev X hq hn hall hev
      have hc18 := own_c18 hU63 hall
      have hSb := own_S_le hP18
      obtain ⟨v6, hv6⟩ : ∃ z, z = ev + (1 : Int32) := ⟨_, rfl⟩
      refine go_iinc X v6 #[.val (.ref aB), .val (.int at_), .val (.long units), .second, .val (.int places), .val (.long q), .second, .val (.int v6), .unset, .unset, .unset, .unset] d4_44 rfl hv6.symm rfl 47 rfl ?_
      refine go_lload X d4_47 rfl 49 rfl ?_
      refine go_ldc2 X (wd37 hw) d4_49 52 rfl ?_
      refine go_ldiv X d4_52 (by decide) 53 rfl ?_
      refine go_nmL (fun v7 hv7 => ?_)
      refine go_lstore X #[.val (.ref aB), .val (.int at_), .val (.long units), .second, .val (.int places), .val (.long v7), .second, .val (.int v6), .unset, .unset, .unset, .unset] d4_53 rfl 55 rfl ?_
      refine go_lload X d4_55 rfl 57 rfl ?_
      refine go_lconst X (0 : Int64) d4_57 (by decide) 58 rfl ?_
      refine go_lif X 59 62 44 d4_58 rfl d4_59 rfl (by decide) (by decide) ?_ ?_
      · intro (c8 : ¬ (v7 = (0 : Int64)))
        exact absurd (own_zz (own_step10 hq hv7) (own_zdiv hn)) c8
      intro c8
      replace c8 : v7 = (0 : Int64) := Decidable.not_not.mp c8
      exact KX _ _ _ (c' + 1) X ⟨by omega, fun t h1 h2 => hall t h1 (by omega), own_z0 (own_step10 hq hv7) c8⟩ (own_incI (k := A + own_S P + c') hev hv6 (by omega))
    | succ n ih =>
      intro c' T q ev X hq hn hall hev
      have hc18 := own_c18 hU63 hall
      have hSb := own_S_le hP18
      obtain ⟨v9, hv9⟩ : ∃ z, z = ev + (1 : Int32) := ⟨_, rfl⟩
      refine go_iinc X v9 #[.val (.ref aB), .val (.int at_), .val (.long units), .second, .val (.int places), .val (.long q), .second, .val (.int v9), .unset, .unset, .unset, .unset] d4_44 rfl hv9.symm rfl 47 rfl ?_
      refine go_lload X d4_47 rfl 49 rfl ?_
      refine go_ldc2 X (wd37 hw) d4_49 52 rfl ?_
      refine go_ldiv X d4_52 (by decide) 53 rfl ?_
      refine go_nmL (fun v10 hv10 => ?_)
      refine go_lstore X #[.val (.ref aB), .val (.int at_), .val (.long units), .second, .val (.int places), .val (.long v10), .second, .val (.int v9), .unset, .unset, .unset, .unset] d4_53 rfl 55 rfl ?_
      refine go_lload X d4_55 rfl 57 rfl ?_
      refine go_lconst X (0 : Int64) d4_57 (by decide) 58 rfl ?_
      refine go_lif X 59 62 44 d4_58 rfl d4_59 rfl (by decide) (by decide) ?_ ?_
      · intro (c11 : ¬ (v10 = (0 : Int64)))
        exact ih (c' + 1) _ _ _ X (own_step10 hq hv10) (own_lediv hn) (own_all hall (own_nz (own_step10 hq hv10) c11)) (own_incI (k := A + own_S P + c') hev hv9 (by omega))
      intro c11
      replace c11 : v10 = (0 : Int64) := Decidable.not_not.mp c11
      exact KX _ _ _ (c' + 1) X ⟨by omega, fun t h1 h2 => hall t h1 (by omega), own_z0 (own_step10 hq hv10) c11⟩ (own_incI (k := A + own_S P + c') hev hv9 (by omega))
  intro T44 q44 ev nd X44 hnd hev
  have hEb := own_Eb hU63 hA3 hP18 hnd
  obtain ⟨E', hE'⟩ : ∃ E', E' = A + own_S P + nd := ⟨_, rfl⟩
  rw [← hE'] at hev hEb
  refine go_lloadN X44 d4_62 rfl 63 rfl ?_
  refine go_lstore X44 #[.val (.ref aB), .val (.int at_), .val (.long units), .second, .val (.int places), .val (.long q44), .second, .val (.int ev), .val (.long units), .second, .unset, .unset] d4_63 rfl 65 rfl ?_
  refine go_iload X44 d4_65 rfl 67 rfl ?_
  refine go_istore X44 #[.val (.ref aB), .val (.int at_), .val (.long units), .second, .val (.int places), .val (.long q44), .second, .val (.int ev), .val (.long units), .second, .val (.int ev), .unset] d4_67 rfl 69 rfl ?_
  refine go_iconst X44 (0 : Int32) d4_69 (by decide) 70 rfl ?_
  refine go_istore X44 #[.val (.ref aB), .val (.int at_), .val (.long units), .second, .val (.int places), .val (.long q44), .second, .val (.int ev), .val (.long units), .second, .val (.int ev), .val (.int (0 : Int32))] d4_70 rfl 72 rfl ?_
  refine go_cut (A := ∀ (T : State) (h : Heap) (r : Int64) (j i : Int32), SD p l e r4 s m #[(.ref aB), (.int at_), (.long units), (.int places)] below meth c Z y4 prog_57_method_11_code 12 (some .int) n0 T h 0 0 → r.toInt = ((Un / 10 ^ P : Nat) : Int) → j.toInt = ((E' - P : Nat) : Int) → Keep h0 h [aB] → AA Z h aB .byte 24 (fun i => .int (own_F3 E' Un P i)) → Go p e below E m T 112 #[.val (.ref aB), .val (.int at_), .val (.long units), .second, .val (.int places), .val (.long q44), .second, .val (.int ev), .val (.long r), .second, .val (.int j), .val (.int i)] []) ?_ ?_
  · intro KX
    refine go_cut (A := ∀ (n k : Nat) (T : State) (h : Heap) (r : Int64) (j i : Int32), SD p l e r4 s m #[(.ref aB), (.int at_), (.long units), (.int places)] below meth c Z y4 prog_57_method_11_code 12 (some .int) n0 T h 0 0 → k + n = P → r.toInt = ((Un / 10 ^ k : Nat) : Int) → j.toInt = ((E' - k : Nat) : Int) → i.toInt = (k : Int) → Keep h0 h [aB] → AA Z h aB .byte 24 (fun i => .int (own_F3 E' Un k i)) → Go p e below E m T 72 #[.val (.ref aB), .val (.int at_), .val (.long units), .second, .val (.int places), .val (.long q44), .second, .val (.int ev), .val (.long r), .second, .val (.int j), .val (.int i)] []) ?_ ?_
    · intro LP
      exact LP P 0 _ _ _ _ _ X44 (Nat.zero_add _) (by rw [hU, Nat.pow_zero, Nat.div_one]) (by rw [hev]; rfl) rfl (Keep.refl _ _) (A_b.fn (fun i hi => own_F3_0 _ _ i))
    intro n
    induction n with
    | zero =>
      intro k T h r j i X hk hr hj hi K A_b
      have ci : ¬ (i < places) := own_nlt hi hP (by omega)
      refine go_iload X d4_72 rfl 74 rfl ?_
      refine go_iload X d4_74 rfl 76 rfl ?_
      refine go_icmp X 79 112 d4_76 rfl (by decide) (by decide) (fun _ => ?_) (fun (hh : ¬ (¬ (i < places))) => absurd (ci : ¬ (i < places)) hh)
      exact KX _ _ _ _ _ X (by rw [hr, (by omega : k = P)]) (by rw [hj, (by omega : k = P)]) K (by rw [← (by omega : k = P)]; exact A_b)
    | succ n ih =>
      intro k T h r j i X hk hr hj hi K A_b
      have ci : i < places := own_lt hi hP (by omega)
      have hE2 := own_Elow hE' hnd
      have hPS := own_PS P
      refine go_iload X d4_72 rfl 74 rfl ?_
      refine go_iload X d4_74 rfl 76 rfl ?_
      refine go_icmp X 79 112 d4_76 rfl (by decide) (by decide) (fun (hh : ¬ (i < places)) => absurd (ci : i < places) hh) (fun _ => ?_)
      refine go_aloadN X d4_79 rfl rfl 80 rfl ?_
      obtain ⟨v12, hv12⟩ : ∃ z, z = j + (-1 : Int32) := ⟨_, rfl⟩
      refine go_iinc X v12 #[.val (.ref aB), .val (.int at_), .val (.long units), .second, .val (.int places), .val (.long q44), .second, .val (.int ev), .val (.long r), .second, .val (.int v12), .val (.int i)] d4_80 rfl hv12.symm rfl 83 rfl ?_
      refine go_iload X d4_83 rfl 85 rfl ?_
      refine go_ldc2 X (wd38 hw) d4_85 88 rfl ?_
      refine go_lload X d4_88 rfl 90 rfl ?_
      refine go_ldc2 X (wd37 hw) d4_90 93 rfl ?_
      refine go_lrem X d4_93 (by decide) 94 rfl ?_
      refine go_ladd X d4_94 95 rfl ?_
      refine go_l2i X d4_95 96 rfl ?_
      refine go_i2b X d4_96 97 rfl ?_
      have hjv : v12.toInt = ((E' - k - 1 : Nat) : Int) := own_decI (by rw [hj]; congr 1; omega) hv12 (by omega)
      refine go_setB X A_b (own_jpos hjv) (own_jlt hjv (by omega)) g_b d4_97 98 rfl (fun T13 h13 X13 K13 A13 => ?_)
      refine go_lload X13 d4_98 rfl 100 rfl ?_
      refine go_ldc2 X13 (wd37 hw) d4_100 103 rfl ?_
      refine go_ldiv X13 d4_103 (by decide) 104 rfl ?_
      refine go_nmL (fun v14 hv14 => ?_)
      refine go_lstore X13 #[.val (.ref aB), .val (.int at_), .val (.long units), .second, .val (.int places), .val (.long q44), .second, .val (.int ev), .val (.long v14), .second, .val (.int v12), .val (.int i)] d4_104 rfl 106 rfl ?_
      obtain ⟨v15, hv15⟩ : ∃ z, z = i + (1 : Int32) := ⟨_, rfl⟩
      refine go_iinc X13 v15 #[.val (.ref aB), .val (.int at_), .val (.long units), .second, .val (.int places), .val (.long q44), .second, .val (.int ev), .val (.long v14), .second, .val (.int v12), .val (.int v15)] d4_106 rfl hv15.symm rfl 109 rfl ?_
      refine go_goto X13 72 d4_109 (by decide) (by decide) ?_
      exact ih (k + 1) _ _ _ _ _ X13 (by omega) (own_step10 hr hv14) (by rw [hjv]; congr 1) (own_incI hi hv15 (by omega)) (K.trans K13 (fun x hx => Or.inl hx)) (A13.fn (own_F3_step hjv (own_dig hr) (by omega)))
  intro T72 h72 r72 j72 i72 X72 hr72 hj72 K72 A72
  have hE2 := own_Elow hE' hnd
  have hPS := own_PS P
  refine go_cut (A := ∀ (T : State) (h : Heap) (r : Int64) (j : Int32), SD p l e r4 s m #[(.ref aB), (.int at_), (.long units), (.int places)] below meth c Z y4 prog_57_method_11_code 12 (some .int) n0 T h 0 0 → Keep h0 h [aB] → AA Z h aB .byte 24 (fun i => .int (own_F4 E' P Un nd i)) → Go p e below E m T 160 #[.val (.ref aB), .val (.int at_), .val (.long units), .second, .val (.int places), .val (.long q44), .second, .val (.int ev), .val (.long r), .second, .val (.int j), .val (.int i72)] []) ?_ ?_
  · intro KX
    refine go_cut (A := ∀ (n c' : Nat) (T : State) (h : Heap) (r : Int64) (j : Int32), SD p l e r4 s m #[(.ref aB), (.int at_), (.long units), (.int places)] below meth c Z y4 prog_57_method_11_code 12 (some .int) n0 T h 0 0 → r.toInt = ((Un / 10 ^ (P + c') : Nat) : Int) → c' + n + 1 = nd → j.toInt = ((E' - own_S P - c' : Nat) : Int) → Keep h0 h [aB] → AA Z h aB .byte 24 (fun i => .int (own_F4 E' P Un c' i)) → Go p e below E m T 126 #[.val (.ref aB), .val (.int at_), .val (.long units), .second, .val (.int places), .val (.long q44), .second, .val (.int ev), .val (.long r), .second, .val (.int j), .val (.int i72)] []) ?_ ?_
    · intro LP
      refine go_iload X72 d4_112 rfl 114 rfl ?_
      refine go_if X72 117 126 d4_114 rfl (by decide) (by decide) ?_ ?_
      · intro (c16 : ¬ ((0 : Int32) < places))
        exact LP (nd - 1) 0 _ _ _ _ X72 hr72 (by have := hnd.1; omega) (by rw [hj72]; congr 1; exact own_Sz (own_P0 hP c16)) K72 (A72.fn (fun i hi => own_F34 (own_P0 hP c16)))
      intro c16
      replace c16 : (0 : Int32) < places := Decidable.not_not.mp c16
      refine go_aloadN X72 d4_117 rfl rfl 118 rfl ?_
      obtain ⟨v17, hv17⟩ : ∃ z, z = j72 + (-1 : Int32) := ⟨_, rfl⟩
      refine go_iinc X72 v17 #[.val (.ref aB), .val (.int at_), .val (.long units), .second, .val (.int places), .val (.long q44), .second, .val (.int ev), .val (.long r72), .second, .val (.int v17), .val (.int i72)] d4_118 rfl hv17.symm rfl 121 rfl ?_
      refine go_iload X72 d4_121 rfl 123 rfl ?_
      refine go_bipush X72 (46 : Int32) d4_123 (by decide) 125 rfl ?_
      have hjv : v17.toInt = ((E' - P - 1 : Nat) : Int) := own_decI (by rw [hj72]; congr 1; have := hnd.1; omega) hv17 (by omega)
      refine go_setB X72 A72 (own_jpos hjv) (own_jlt hjv (by omega)) g_b d4_125 126 rfl (fun T18 h18 X18 K18 A18 => ?_)
      exact LP (nd - 1) 0 _ _ _ _ X18 hr72 (by have := hnd.1; omega) (by rw [hjv]; congr 1; exact own_Sp (own_P1 hP c16)) (K72.trans K18 (fun x hx => Or.inl hx)) (A18.fn (own_F4_dot hjv (own_P1 hP c16) (by omega)))
    intro n
    induction n with
    | zero =>
      intro c' T h r j X hr hc hj K A_b
      refine go_aloadN X d4_126 rfl rfl 127 rfl ?_
      obtain ⟨v19, hv19⟩ : ∃ z, z = j + (-1 : Int32) := ⟨_, rfl⟩
      refine go_iinc X v19 #[.val (.ref aB), .val (.int at_), .val (.long units), .second, .val (.int places), .val (.long q44), .second, .val (.int ev), .val (.long r), .second, .val (.int v19), .val (.int i72)] d4_127 rfl hv19.symm rfl 130 rfl ?_
      refine go_iload X d4_130 rfl 132 rfl ?_
      refine go_ldc2 X (wd38 hw) d4_132 135 rfl ?_
      refine go_lload X d4_135 rfl 137 rfl ?_
      refine go_ldc2 X (wd37 hw) d4_137 140 rfl ?_
      refine go_lrem X d4_140 (by decide) 141 rfl ?_
      refine go_ladd X d4_141 142 rfl ?_
      refine go_l2i X d4_142 143 rfl ?_
      refine go_i2b X d4_143 144 rfl ?_
      have hjv : v19.toInt = ((E' - own_S P - c' - 1 : Nat) : Int) := own_decI (by rw [hj]; congr 1; omega) hv19 (by omega)
      refine go_setB X A_b (own_jpos hjv) (own_jlt hjv (by omega)) g_b d4_144 145 rfl (fun T20 h20 X20 K20 A20 => ?_)
      refine go_lload X20 d4_145 rfl 147 rfl ?_
      refine go_ldc2 X20 (wd37 hw) d4_147 150 rfl ?_
      refine go_ldiv X20 d4_150 (by decide) 151 rfl ?_
      refine go_nmL (fun v21 hv21 => ?_)
      refine go_lstore X20 #[.val (.ref aB), .val (.int at_), .val (.long units), .second, .val (.int places), .val (.long q44), .second, .val (.int ev), .val (.long v21), .second, .val (.int v19), .val (.int i72)] d4_151 rfl 153 rfl ?_
      refine go_lload X20 d4_153 rfl 155 rfl ?_
      refine go_lconst X20 (0 : Int64) d4_155 (by decide) 156 rfl ?_
      refine go_lif X20 157 160 126 d4_156 rfl d4_157 rfl (by decide) (by decide) ?_ ?_
      · intro (c22 : ¬ (v21 = (0 : Int64)))
        exact absurd (own_zz (own_step10 hr hv21) (by rw [(by omega : P + c' + 1 = P + nd)]; exact hnd.2.2)) c22
      intro c22
      replace c22 : v21 = (0 : Int64) := Decidable.not_not.mp c22
      exact KX _ _ _ _ X20 (K.trans K20 (fun x hx => Or.inl hx)) (A20.fn (fun i hi => (own_F4_step hjv (own_dig hr) (by omega) i hi).trans (by rw [(by omega : c' + 1 = nd)])))
    | succ n ih =>
      intro c' T h r j X hr hc hj K A_b
      refine go_aloadN X d4_126 rfl rfl 127 rfl ?_
      obtain ⟨v23, hv23⟩ : ∃ z, z = j + (-1 : Int32) := ⟨_, rfl⟩
      refine go_iinc X v23 #[.val (.ref aB), .val (.int at_), .val (.long units), .second, .val (.int places), .val (.long q44), .second, .val (.int ev), .val (.long r), .second, .val (.int v23), .val (.int i72)] d4_127 rfl hv23.symm rfl 130 rfl ?_
      refine go_iload X d4_130 rfl 132 rfl ?_
      refine go_ldc2 X (wd38 hw) d4_132 135 rfl ?_
      refine go_lload X d4_135 rfl 137 rfl ?_
      refine go_ldc2 X (wd37 hw) d4_137 140 rfl ?_
      refine go_lrem X d4_140 (by decide) 141 rfl ?_
      refine go_ladd X d4_141 142 rfl ?_
      refine go_l2i X d4_142 143 rfl ?_
      refine go_i2b X d4_143 144 rfl ?_
      have hjv : v23.toInt = ((E' - own_S P - c' - 1 : Nat) : Int) := own_decI (by rw [hj]; congr 1; omega) hv23 (by omega)
      refine go_setB X A_b (own_jpos hjv) (own_jlt hjv (by omega)) g_b d4_144 145 rfl (fun T24 h24 X24 K24 A24 => ?_)
      refine go_lload X24 d4_145 rfl 147 rfl ?_
      refine go_ldc2 X24 (wd37 hw) d4_147 150 rfl ?_
      refine go_ldiv X24 d4_150 (by decide) 151 rfl ?_
      refine go_nmL (fun v25 hv25 => ?_)
      refine go_lstore X24 #[.val (.ref aB), .val (.int at_), .val (.long units), .second, .val (.int places), .val (.long q44), .second, .val (.int ev), .val (.long v25), .second, .val (.int v23), .val (.int i72)] d4_151 rfl 153 rfl ?_
      refine go_lload X24 d4_153 rfl 155 rfl ?_
      refine go_lconst X24 (0 : Int64) d4_155 (by decide) 156 rfl ?_
      refine go_lif X24 157 160 126 d4_156 rfl d4_157 rfl (by decide) (by decide) ?_ ?_
      · intro (c26 : ¬ (v25 = (0 : Int64)))
        exact ih (c' + 1) _ _ _ _ X24 (own_step10 hr hv25) (by omega) (by rw [hjv]; congr 1) (K.trans K24 (fun x hx => Or.inl hx)) (A24.fn (own_F4_step hjv (own_dig hr) (by omega)))
      intro c26
      replace c26 : v25 = (0 : Int64) := Decidable.not_not.mp c26
      exact absurd (own_z0 (own_step10 hr hv25) c26) (hnd.2.1 (c' + 1) (by omega) (by omega))
  intro T126 h126 r126 j126 X126 K126 A126
  refine go_iload X126 d4_160 rfl 162 rfl ?_
  exact go_retI X126 hE d4_162 (fun L N => ⟨N, K126, nd, hnd, ⟨_, rfl, by rw [hev, hE']⟩, by rw [← hE']; exact A126⟩) (by decide) (by decide)
abbrev y5 : MethodName := ⟨"com/example/voxweight/voxweight/io/DecimalsWriteDigitsPinLaw", "ok", "([BIIIJI[J)Z"⟩
abbrev r5 : Room := { frames := 0, cells := 0, slots := 0, locals := 0 }
set_option maxRecDepth 65536 in
set_option maxHeartbeats 40000000 in
theorem rm5 (l : Launch) (Z : State) (a0 : Array Value) (hw : ∀ d ∈ tables_1, d.before a0 Z = true) (ws : List Jvm.Cond) (h0 : Heap) (n0 : Nat) (aB : Addr) (pos at_ len : Int32) (units : Int64) (places : Int32) (aP : Addr)   (A P Un nd K E' : Nat) (hA : at_.toInt = (A : Int)) (hP : places.toInt = (P : Int)) (hU : units.toInt = (Un : Int)) (hA3 : A ≤ 3) (hP18 : P ≤ 18) (hU63 : Un < 2 ^ 63) (hnd : own_ND Un P nd) (hE' : E' = A + own_S P + nd) (hpos : pos.toInt = (K : Int)) (hK : K < 24) (hlen : len.toInt = ((own_S P + nd : Nat) : Int)) (A_b : AA Z h0 aB .byte 24 (fun i => .int (own_F4 E' P Un nd i))) (A_p : AA Z h0 aP .long 19 (fun i => .long (own_pw i))) :
    MetFree l y5 (head1 (Jvm.Cond.code y5 method_5_code 13 (some .boolean) :: ws) r5) (fun a U => a = #[(.ref aB), (.int pos), (.int at_), (.int len), (.long units), (.int places), (.ref aP)] ∧ Z.Warmed39 U.vm ∧ U.heap = h0) (fun _ _ _ _ _ => True) (fun _ U o U' => ∃ v L, o = .returned v ∧ PQ (some (.int 1)) h0 n0 v U'.heap L ∧ FrameEnd U o U' L r5.cells r5.slots) := by
  refine met_of (Z := Z) (n0 := n0) (Ls := #[.val (.ref aB), .val (.int pos), .val (.int at_), .val (.int len), .val (.long units), .second, .val (.int places), .val (.ref aP), .unset, .unset, .unset, .unset, .unset]) (plainFor_of_name (by first | (simp [plainName, overriddenIn]; done) | decide +kernel)) (fun m => by first | (simp [entryFrame, mkF, argsToLocals, Value.category]; done) | rfl) ?_
  intro p e s m below meth c T0 E hE X0
  have hposN : pos.toInt.toNat = K := by rw [hpos]; rfl
  refine go_aloadN X0 d5_0 rfl rfl 1 rfl ?_
  refine go_iloadN X0 d5_1 rfl 2 rfl ?_
  refine go_getB X0 A_b (own_jpos hpos) (own_jlt hpos hK) rfl d5_2 3 rfl ?_
  refine go_nmI (fun v1 hv1 => ?_)
  refine go_istore X0 #[.val (.ref aB), .val (.int pos), .val (.int at_), .val (.int len), .val (.long units), .second, .val (.int places), .val (.ref aP), .val (.int v1), .unset, .unset, .unset, .unset] d5_3 rfl 5 rfl ?_
  refine go_iloadN X0 d5_5 rfl 6 rfl ?_
  refine go_iloadN X0 d5_6 rfl 7 rfl ?_
  refine go_icmp X0 10 17 d5_7 rfl (by decide) (by decide) ?_ ?_
  · intro (c2 : pos < at_)
    refine go_iload X0 d5_17 rfl 19 rfl ?_
    refine go_if X0 22 26 d5_19 rfl (by decide) (by decide) ?_ ?_
    · intro (c3 : ¬ (v1 = (0 : Int32)))
      exfalso
      exact c3 (by rw [hv1, hposN]; exact own_okC0 hE' (Or.inl (own_ltN hpos hA c2)))
    intro (c3 : ¬ (¬ (v1 = (0 : Int32))))
    replace c3 : v1 = (0 : Int32) := Decidable.not_not.mp c3
    refine go_iconst X0 (1 : Int32) d5_22 (by decide) 23 rfl ?_
    refine go_goto X0 27 d5_23 (by decide) (by decide) ?_
    exact go_retN X0 hE (by simp) d5_27 (fun L N => ⟨rfl, N, rfl⟩) (by decide) (by decide)
  intro (c2 : ¬ (pos < at_))
  refine go_iloadN X0 d5_10 rfl 11 rfl ?_
  refine go_iloadN X0 d5_11 rfl 12 rfl ?_
  refine go_iloadN X0 d5_12 rfl 13 rfl ?_
  refine go_iadd X0 d5_13 14 rfl ?_
  refine go_icmp X0 17 28 d5_14 rfl (by decide) (by decide) ?_ ?_
  · intro (c4 : pos < (at_ + len))
    refine go_iloadN X0 d5_28 rfl 29 rfl ?_
    refine go_iloadN X0 d5_29 rfl 30 rfl ?_
    refine go_iadd X0 d5_30 31 rfl ?_
    refine go_iconst X0 (1 : Int32) d5_31 (by decide) 32 rfl ?_
    refine go_isub X0 d5_32 33 rfl ?_
    refine go_iloadN X0 d5_33 rfl 34 rfl ?_
    refine go_isub X0 d5_34 35 rfl ?_
    refine go_nmI (fun v5 hv5 => ?_)
    refine go_istore X0 #[.val (.ref aB), .val (.int pos), .val (.int at_), .val (.int len), .val (.long units), .second, .val (.int places), .val (.ref aP), .val (.int v1), .val (.int v5), .unset, .unset, .unset] d5_35 rfl 37 rfl ?_
    have hAL : (at_ + len).toInt = ((E' : Nat) : Int) := by rw [own_addN hA hlen (by have := own_Eb hU63 hA3 hP18 hnd; omega), hE']; congr 1; omega
    have hin : A ≤ K ∧ K < E' := ⟨own_geN hpos hA c2, own_ltN hpos hAL c4⟩
    have hEb := own_Eb hU63 hA3 hP18 hnd
    rw [← hE'] at hEb
    have hj : v5.toInt = ((E' - 1 - K : Nat) : Int) := by
        rw [hv5]
        exact own_subN (own_subN (y := 1) hAL rfl (by omega) (by omega)) hpos (by omega) (by omega)
    refine go_iload X0 d5_37 rfl 39 rfl ?_
    refine go_if X0 42 83 d5_39 rfl (by decide) (by decide) ?_ ?_
    · intro (c6 : ¬ ((0 : Int32) < places))
      refine go_iload X0 d5_83 rfl 85 rfl ?_
      refine go_istore X0 #[.val (.ref aB), .val (.int pos), .val (.int at_), .val (.int len), .val (.long units), .second, .val (.int places), .val (.ref aP), .val (.int v1), .val (.int v5), .val (.int v5), .unset, .unset] d5_85 rfl 87 rfl ?_
      have hp0 := own_P0 hP c6
      refine go_lload X0 d5_87 rfl 89 rfl ?_
      refine go_aload X0 d5_89 rfl rfl 91 rfl ?_
      refine go_iload X0 d5_91 rfl 93 rfl ?_
      have hK2 := own_nd_le hU63 hnd hP18
      have hS2 : own_S P = if P = 0 then 0 else P + 1 := rfl
      have hi : v5.toInt = ((E' - 1 - K : Nat) : Int) := hj
      have ht : (E' - 1 - K) < 19 := by split at hS2 <;> omega
      have hpw : own_pw v5.toInt.toNat = own_pw (E' - 1 - K) := by rw [hi]; rfl
      refine go_getJ X0 A_p (own_jpos hi) (by rw [hi]; exact Int.ofNat_lt.mpr ht) rfl d5_93 94 rfl ?_
      refine go_ldiv X0 d5_94 (hpw ▸ own_pw_ne ht) 95 rfl ?_
      refine go_ldc2 X0 (wd3 hw) d5_95 98 rfl ?_
      refine go_lrem X0 d5_98 (by decide) 99 rfl ?_
      refine go_nmL (fun v7 hv7 => ?_)
      refine go_lstore X0 #[.val (.ref aB), .val (.int pos), .val (.int at_), .val (.int len), .val (.long units), .second, .val (.int places), .val (.ref aP), .val (.int v1), .val (.int v5), .val (.int v5), .val (.long v7), .second] d5_99 rfl 101 rfl ?_
      refine go_iload X0 d5_101 rfl 103 rfl ?_
      refine go_ldc2 X0 (wd42 hw) d5_103 106 rfl ?_
      refine go_lload X0 d5_106 rfl 108 rfl ?_
      refine go_ladd X0 d5_108 109 rfl ?_
      refine go_l2i X0 d5_109 110 rfl ?_
      refine go_i2b X0 d5_110 111 rfl ?_
      refine go_icmp X0 114 118 d5_111 rfl (by decide) (by decide) ?_ ?_
      · intro (c8 : ¬ (v1 = ((((48 : Int64) + v7).toInt32).toInt8.toInt32)))
        exfalso
        exact c8 (own_okd (K := K) (dg := 0) hv1 (by rw [hposN]; exact own_okC1 hE' hin.1 hin.2 (Or.inl hp0)) hU ht hpw hv7)
      intro (c8 : ¬ (¬ (v1 = ((((48 : Int64) + v7).toInt32).toInt8.toInt32))))
      replace c8 : v1 = ((((48 : Int64) + v7).toInt32).toInt8.toInt32) := Decidable.not_not.mp c8
      refine go_iconst X0 (1 : Int32) d5_114 (by decide) 115 rfl ?_
      refine go_goto X0 119 d5_115 (by decide) (by decide) ?_
      exact go_retN X0 hE (by simp) d5_119 (fun L N => ⟨rfl, N, rfl⟩) (by decide) (by decide)
    intro c6
    replace c6 : (0 : Int32) < places := Decidable.not_not.mp c6
    refine go_iload X0 d5_42 rfl 44 rfl ?_
    refine go_iload X0 d5_44 rfl 46 rfl ?_
    refine go_icmp X0 49 62 d5_46 rfl (by decide) (by decide) ?_ ?_
    · intro (c9 : ¬ (v5 = places))
      refine go_iload X0 d5_62 rfl 64 rfl ?_
      refine go_iload X0 d5_64 rfl 66 rfl ?_
      refine go_icmp X0 69 74 d5_66 rfl (by decide) (by decide) ?_ ?_
      · intro (c10 : ¬ (v5 < places))
        refine go_iload X0 d5_74 rfl 76 rfl ?_
        refine go_iconst X0 (1 : Int32) d5_76 (by decide) 77 rfl ?_
        refine go_isub X0 d5_77 78 rfl ?_
        refine go_nmI (fun v11 hv11 => ?_)
        refine go_istore X0 #[.val (.ref aB), .val (.int pos), .val (.int at_), .val (.int len), .val (.long units), .second, .val (.int places), .val (.ref aP), .val (.int v1), .val (.int v5), .val (.int v11), .unset, .unset] d5_78 rfl 80 rfl ?_
        refine go_goto X0 87 d5_80 (by decide) (by decide) ?_
        have hp0 := own_P1 hP c6
        have hne := own_neN hj hP c9
        have hlt := own_geN hj hP c10
        refine go_lload X0 d5_87 rfl 89 rfl ?_
        refine go_aload X0 d5_89 rfl rfl 91 rfl ?_
        refine go_iload X0 d5_91 rfl 93 rfl ?_
        have hK2 := own_nd_le hU63 hnd hP18
        have hS2 : own_S P = if P = 0 then 0 else P + 1 := rfl
        have hi : v11.toInt = ((E' - 1 - K - 1 : Nat) : Int) := by rw [hv11]; exact own_subN (y := 1) hj rfl (by omega) (by omega)
        have ht : (E' - 1 - K - 1) < 19 := by split at hS2 <;> omega
        have hpw : own_pw v11.toInt.toNat = own_pw (E' - 1 - K - 1) := by rw [hi]; rfl
        refine go_getJ X0 A_p (own_jpos hi) (by rw [hi]; exact Int.ofNat_lt.mpr ht) rfl d5_93 94 rfl ?_
        refine go_ldiv X0 d5_94 (hpw ▸ own_pw_ne ht) 95 rfl ?_
        refine go_ldc2 X0 (wd3 hw) d5_95 98 rfl ?_
        refine go_lrem X0 d5_98 (by decide) 99 rfl ?_
        refine go_nmL (fun v12 hv12 => ?_)
        refine go_lstore X0 #[.val (.ref aB), .val (.int pos), .val (.int at_), .val (.int len), .val (.long units), .second, .val (.int places), .val (.ref aP), .val (.int v1), .val (.int v5), .val (.int v11), .val (.long v12), .second] d5_99 rfl 101 rfl ?_
        refine go_iload X0 d5_101 rfl 103 rfl ?_
        refine go_ldc2 X0 (wd42 hw) d5_103 106 rfl ?_
        refine go_lload X0 d5_106 rfl 108 rfl ?_
        refine go_ladd X0 d5_108 109 rfl ?_
        refine go_l2i X0 d5_109 110 rfl ?_
        refine go_i2b X0 d5_110 111 rfl ?_
        refine go_icmp X0 114 118 d5_111 rfl (by decide) (by decide) ?_ ?_
        · intro (c13 : ¬ (v1 = ((((48 : Int64) + v12).toInt32).toInt8.toInt32)))
          exfalso
          exact c13 (own_okd (K := K) (dg := 0) hv1 (by rw [hposN]; exact own_okC2 hE' hin.1 hin.2 hp0 (by omega)) hU ht hpw hv12)
        intro (c13 : ¬ (¬ (v1 = ((((48 : Int64) + v12).toInt32).toInt8.toInt32))))
        replace c13 : v1 = ((((48 : Int64) + v12).toInt32).toInt8.toInt32) := Decidable.not_not.mp c13
        refine go_iconst X0 (1 : Int32) d5_114 (by decide) 115 rfl ?_
        refine go_goto X0 119 d5_115 (by decide) (by decide) ?_
        exact go_retN X0 hE (by simp) d5_119 (fun L N => ⟨rfl, N, rfl⟩) (by decide) (by decide)
      intro c10
      replace c10 : v5 < places := Decidable.not_not.mp c10
      refine go_iload X0 d5_69 rfl 71 rfl ?_
      refine go_goto X0 78 d5_71 (by decide) (by decide) ?_
      refine go_istore X0 #[.val (.ref aB), .val (.int pos), .val (.int at_), .val (.int len), .val (.long units), .second, .val (.int places), .val (.ref aP), .val (.int v1), .val (.int v5), .val (.int v5), .unset, .unset] d5_78 rfl 80 rfl ?_
      refine go_goto X0 87 d5_80 (by decide) (by decide) ?_
      have hp0 := own_P1 hP c6
      have hne := own_neN hj hP c9
      have hlt := own_ltN hj hP c10
      refine go_lload X0 d5_87 rfl 89 rfl ?_
      refine go_aload X0 d5_89 rfl rfl 91 rfl ?_
      refine go_iload X0 d5_91 rfl 93 rfl ?_
      have hK2 := own_nd_le hU63 hnd hP18
      have hS2 : own_S P = if P = 0 then 0 else P + 1 := rfl
      have hi : v5.toInt = ((E' - 1 - K : Nat) : Int) := hj
      have ht : (E' - 1 - K) < 19 := by split at hS2 <;> omega
      have hpw : own_pw v5.toInt.toNat = own_pw (E' - 1 - K) := by rw [hi]; rfl
      refine go_getJ X0 A_p (own_jpos hi) (by rw [hi]; exact Int.ofNat_lt.mpr ht) rfl d5_93 94 rfl ?_
      refine go_ldiv X0 d5_94 (hpw ▸ own_pw_ne ht) 95 rfl ?_
      refine go_ldc2 X0 (wd3 hw) d5_95 98 rfl ?_
      refine go_lrem X0 d5_98 (by decide) 99 rfl ?_
      refine go_nmL (fun v14 hv14 => ?_)
      refine go_lstore X0 #[.val (.ref aB), .val (.int pos), .val (.int at_), .val (.int len), .val (.long units), .second, .val (.int places), .val (.ref aP), .val (.int v1), .val (.int v5), .val (.int v5), .val (.long v14), .second] d5_99 rfl 101 rfl ?_
      refine go_iload X0 d5_101 rfl 103 rfl ?_
      refine go_ldc2 X0 (wd42 hw) d5_103 106 rfl ?_
      refine go_lload X0 d5_106 rfl 108 rfl ?_
      refine go_ladd X0 d5_108 109 rfl ?_
      refine go_l2i X0 d5_109 110 rfl ?_
      refine go_i2b X0 d5_110 111 rfl ?_
      refine go_icmp X0 114 118 d5_111 rfl (by decide) (by decide) ?_ ?_
      · intro (c15 : ¬ (v1 = ((((48 : Int64) + v14).toInt32).toInt8.toInt32)))
        exfalso
        exact c15 (own_okd (K := K) (dg := 0) hv1 (by rw [hposN]; exact own_okC1 hE' hin.1 hin.2 (Or.inr hlt)) hU ht hpw hv14)
      intro (c15 : ¬ (¬ (v1 = ((((48 : Int64) + v14).toInt32).toInt8.toInt32))))
      replace c15 : v1 = ((((48 : Int64) + v14).toInt32).toInt8.toInt32) := Decidable.not_not.mp c15
      refine go_iconst X0 (1 : Int32) d5_114 (by decide) 115 rfl ?_
      refine go_goto X0 119 d5_115 (by decide) (by decide) ?_
      exact go_retN X0 hE (by simp) d5_119 (fun L N => ⟨rfl, N, rfl⟩) (by decide) (by decide)
    intro c9
    replace c9 : v5 = places := Decidable.not_not.mp c9
    refine go_iload X0 d5_49 rfl 51 rfl ?_
    refine go_bipush X0 (46 : Int32) d5_51 (by decide) 53 rfl ?_
    refine go_icmp X0 56 60 d5_53 rfl (by decide) (by decide) ?_ ?_
    · intro (c16 : ¬ (v1 = (46 : Int32)))
      exfalso
      exact c16 (by rw [hv1, hposN]; exact own_okC3 hE' hin.1 hin.2 (own_P1 hP c6) (own_eqN hj hP c9))
    intro (c16 : ¬ (¬ (v1 = (46 : Int32))))
    replace c16 : v1 = (46 : Int32) := Decidable.not_not.mp c16
    refine go_iconst X0 (1 : Int32) d5_56 (by decide) 57 rfl ?_
    refine go_goto X0 61 d5_57 (by decide) (by decide) ?_
    exact go_retN X0 hE (by simp) d5_61 (fun L N => ⟨rfl, N, rfl⟩) (by decide) (by decide)
  intro (c4 : ¬ (pos < (at_ + len)))
  refine go_iload X0 d5_17 rfl 19 rfl ?_
  refine go_if X0 22 26 d5_19 rfl (by decide) (by decide) ?_ ?_
  · intro (c17 : ¬ (v1 = (0 : Int32)))
    exfalso
    exact c17 (by rw [hv1, hposN]; exact own_okC0 hE' (Or.inr (own_geN hpos (by rw [own_addN hA hlen (by have := own_Eb hU63 hA3 hP18 hnd; omega), hE']; congr 1; omega) c4)))
  intro (c17 : ¬ (¬ (v1 = (0 : Int32))))
  replace c17 : v1 = (0 : Int32) := Decidable.not_not.mp c17
  refine go_iconst X0 (1 : Int32) d5_22 (by decide) 23 rfl ?_
  refine go_goto X0 27 d5_23 (by decide) (by decide) ?_
  exact go_retN X0 hE (by simp) d5_27 (fun L N => ⟨rfl, N, rfl⟩) (by decide) (by decide)
theorem own_units {u v : Int64} {s : Int32} (h : v = XT.ushrL (u &&& 9223372036854775807) (s &&& 63)) : ∃ U : Nat, v.toInt = (U : Int) ∧ U < 2 ^ 63 := by
  have h1 := Jvm.Kit.i64_mask u 9223372036854775807 (k := 63) (by decide) (by decide)
  have h0 : 0 ≤ (u &&& 9223372036854775807) := Jvm.Kit.i64_nonneg.mpr (by rw [h1]; omega)
  have hk : (((s &&& 63).toInt64.toUInt64 &&& Int64.toUInt64 63)).toNat < 64 := by
    rw [UInt64.toNat_and]
    exact Nat.lt_of_le_of_lt Nat.and_le_right (by decide)
  have h2 : v.toInt = (u &&& 9223372036854775807).toInt / 2 ^ (((s &&& 63).toInt64.toUInt64 &&& Int64.toUInt64 63)).toNat := by
    rw [h]
    exact Jvm.Kit.i64_lushr h0 rfl hk
  have h3 : 0 ≤ (u &&& 9223372036854775807).toInt := by rw [h1]; omega
  have h4 : 0 ≤ v.toInt := by rw [h2]; exact Int.ediv_nonneg h3 (Int.le_of_lt (Int.pow_pos (by decide)))
  have h5 := v.toInt_lt
  exact ⟨v.toInt.toNat, by omega, by omega⟩
theorem own_places {x v : Int32} (h : v = (x &&& 2147483647) % 19) : ∃ P : Nat, v.toInt = (P : Int) ∧ P ≤ 18 := by
  have h1 := own_mod (x := x) (k := 19) (n := 19) rfl (by decide)
  rw [← h] at h1
  exact ⟨v.toInt.toNat, by omega, by omega⟩
theorem own_atv {x v : Int32} (h : v = x &&& 3) : ∃ A : Nat, v.toInt = (A : Int) ∧ A ≤ 3 := by
  have h1 := Jvm.Kit.i32_mask x 3 (k := 2) (by decide) (by decide)
  rw [← h] at h1
  exact ⟨v.toInt.toNat, by omega, by omega⟩
theorem own_endeq {ev a n : Int32} {A S nd : Nat} (hev : ev.toInt = ((A + S + nd : Nat) : Int)) (hA : a.toInt = (A : Int)) (hn : n.toInt = ((S + nd : Nat) : Int)) : ev = a + n := by
  have h := ev.toInt_lt
  apply Int32.toInt_inj.mp
  rw [Jvm.Kit.i32_add (by omega) (by omega)]
  omega
theorem own_ge_int {v : Int64} {U k : Nat} {i : Int32} (hv : v.toInt = (U : Int)) (hi : i.toInt.toNat = k) (hk : k < 19) : (own_ge v i).toInt = ((if U < 10 ^ k then 0 else 1 : Nat) : Int) := by
  unfold own_ge
  rw [hi]
  have h1 : v < own_pw k ↔ U < 10 ^ k := by
    rw [Int64.lt_iff_toInt_lt, hv, own_pw_int hk]
    exact Int.ofNat_lt
  by_cases c : U < 10 ^ k
  · rw [if_pos (h1.mpr c), if_pos c]; rfl
  · rw [if_neg (fun q => c (h1.mp q)), if_neg c]; rfl
theorem own_dstep {v : Int64} {U n : Nat} {x i : Int32} (hv : v.toInt = (U : Int)) (hx : x.toInt = (own_g U n : Int)) (hi : i.toInt.toNat = n + 1) (hn : n + 1 < 19) : (x + own_ge v i).toInt = (own_g U (n + 1) : Int) := by
  have h1 := own_ge_int hv hi hn
  have h2 := (own_g_spec U n).2.1
  have h3 : (if U < 10 ^ (n + 1) then 0 else 1 : Nat) ≤ 1 := by split <;> omega
  rw [Jvm.Kit.i32_add (by omega) (by omega), hx, h1]
  show _ = ((own_g U n + (if U < 10 ^ (n + 1) then 0 else 1) : Nat) : Int)
  omega
theorem own_digits_int {v : Int64} {U : Nat} (hv : v.toInt = (U : Int)) : (own_digits v).toInt = (own_g U 18 : Int) := by
  unfold own_digits
  have h0 : (1 : Int32).toInt = (own_g U 0 : Int) := rfl
  have h1 := own_dstep (i := (1 : Int32)) hv h0 rfl (by decide)
  have h2 := own_dstep (i := (2 : Int32)) hv h1 rfl (by decide)
  have h3 := own_dstep (i := (3 : Int32)) hv h2 rfl (by decide)
  have h4 := own_dstep (i := (4 : Int32)) hv h3 rfl (by decide)
  have h5 := own_dstep (i := (5 : Int32)) hv h4 rfl (by decide)
  have h6 := own_dstep (i := (6 : Int32)) hv h5 rfl (by decide)
  have h7 := own_dstep (i := (7 : Int32)) hv h6 rfl (by decide)
  have h8 := own_dstep (i := (8 : Int32)) hv h7 rfl (by decide)
  have h9 := own_dstep (i := (9 : Int32)) hv h8 rfl (by decide)
  have h10 := own_dstep (i := (10 : Int32)) hv h9 rfl (by decide)
  have h11 := own_dstep (i := (11 : Int32)) hv h10 rfl (by decide)
  have h12 := own_dstep (i := (12 : Int32)) hv h11 rfl (by decide)
  have h13 := own_dstep (i := (13 : Int32)) hv h12 rfl (by decide)
  have h14 := own_dstep (i := (14 : Int32)) hv h13 rfl (by decide)
  have h15 := own_dstep (i := (15 : Int32)) hv h14 rfl (by decide)
  have h16 := own_dstep (i := (16 : Int32)) hv h15 rfl (by decide)
  have h17 := own_dstep (i := (17 : Int32)) hv h16 rfl (by decide)
  have h18 := own_dstep (i := (18 : Int32)) hv h17 rfl (by decide)
  exact h18
theorem own_lenS {units : Int64} {places d m z : Int32} {U P nd : Nat} (hP : places.toInt = (P : Int)) (hU : units.toInt = (U : Int)) (hU63 : U < 2 ^ 63) (hP18 : P ≤ 18) (hnd : own_ND U P nd) (hd : d = own_digits units) (hm : m = own_max 1 (d - places)) (hz : z = if places = (0 : Int32) then m else ((m + (1 : Int32)) + places)) : z.toInt = ((own_S P + nd : Nat) : Int) := by
  have h1 := own_digits_int hU
  rw [← hd] at h1
  have h2 := own_g_spec U 18
  have h3 := own_nd_rel (own_g_nd hU63) hnd
  have e1 : (1 : Int32).toInt = 1 := rfl
  have h4 : (d - places).toInt = (own_g U 18 : Int) - P := by rw [Jvm.Kit.i32_sub (by omega) (by omega), h1, hP]
  have h5 : m.toInt = (nd : Int) := by
    rw [hm]
    unfold own_max
    split at h3
    · rw [if_neg (by rw [Int32.lt_iff_toInt_lt, h4, e1]; omega), e1]
      omega
    · split
      · rw [h4]
        omega
      · rename_i c
        rw [Int32.lt_iff_toInt_lt, h4, e1] at c
        rw [e1]
        omega
  have h6 : nd ≤ 19 := by
    split at h3 <;> omega
  rw [hz]
  by_cases c : places = 0
  · rw [if_pos c, own_S0 ((own_zI hP).mp c), h5]
    omega
  · have hp : 0 < P := by
      have := mt (own_zI hP).mpr c
      omega
    have h7 : (m + (1 : Int32)).toInt = (nd : Int) + 1 := by rw [Jvm.Kit.i32_add (by omega) (by omega), h5, e1]
    rw [if_neg c, Jvm.Kit.i32_add (by omega) (by omega), h7, hP, own_S1 hp]
    omega

def Q0 (n0 : Nat) (v : Option Value) (h : Heap) (L : List Loc) : Prop := v = some (.int 1) ∧ Fr n0 L
set_option maxRecDepth 65536 in
set_option maxHeartbeats 40000000 in
theorem rm0 (l : Launch) (Z : State) (a0 : Array Value) (hw : ∀ d ∈ tables_1, d.before a0 Z = true) (ws : List Jvm.Cond) (h0 : Heap) (n0 : Nat) (Z0 : n0 ≤ h0.size) (i0 : Int64) (i1 i2 i3 : Int32)   :
    MetFree l x (head1 (Jvm.Cond.code x code maxLocals ret :: ws) room_1) (fun a U => a = #[(.long i0), (.int i1), (.int i2), (.int i3)] ∧ Z.Warmed39 U.vm ∧ U.heap = h0) (fun _ _ _ _ _ => True) (fun _ U o U' => ∃ v L, o = .returned v ∧ Q0 n0 v U'.heap L ∧ FrameEnd U o U' L room_1.cells room_1.slots) := by
  refine met_of (Z := Z) (n0 := n0) (Ls := #[.val (.long i0), .second, .val (.int i1), .val (.int i2), .val (.int i3), .unset, .unset, .unset, .unset, .unset, .unset, .unset, .unset, .unset, .unset]) (plainFor_of_name (by first | (simp [plainName, overriddenIn]; done) | decide +kernel)) (fun m => by first | (simp [entryFrame, mkF, argsToLocals, Value.category, maxLocals]; done) | rfl) ?_
  intro p e s m below meth c T0 E hE X0
  refine go_lloadN X0 at_0 rfl 1 rfl ?_
  refine go_ldc2 X0 (wd0 hw) at_1 4 rfl ?_
  refine go_land X0 at_4 5 rfl ?_
  refine go_iloadN X0 at_5 rfl 6 rfl ?_
  refine go_bipush X0 (63 : Int32) at_6 (by decide) 8 rfl ?_
  refine go_iand X0 at_8 9 rfl ?_
  refine go_lushr X0 at_9 10 rfl ?_
  refine go_nmL (fun v1 hv1 => ?_)
  refine go_lstore X0 #[.val (.long i0), .second, .val (.int i1), .val (.int i2), .val (.int i3), .val (.long v1), .second, .unset, .unset, .unset, .unset, .unset, .unset, .unset, .unset] at_10 rfl 12 rfl ?_
  obtain ⟨Un, hU, hU63⟩ := own_units hv1
  refine go_iloadN X0 at_12 rfl 13 rfl ?_
  refine go_ldc X0 (wd1 hw) at_13 15 rfl ?_
  refine go_iand X0 at_15 16 rfl ?_
  refine go_bipush X0 (19 : Int32) at_16 (by decide) 18 rfl ?_
  refine go_irem X0 at_18 (by decide) 19 rfl ?_
  refine go_nmI (fun v2 hv2 => ?_)
  refine go_istore X0 #[.val (.long i0), .second, .val (.int i1), .val (.int i2), .val (.int i3), .val (.long v1), .second, .val (.int v2), .unset, .unset, .unset, .unset, .unset, .unset, .unset] at_19 rfl 21 rfl ?_
  obtain ⟨P, hP, hP18⟩ := own_places hv2
  refine go_iload X0 at_21 rfl 23 rfl ?_
  refine go_iconst X0 (3 : Int32) at_23 (by decide) 24 rfl ?_
  refine go_iand X0 at_24 25 rfl ?_
  refine go_nmI (fun v3 hv3 => ?_)
  refine go_istore X0 #[.val (.long i0), .second, .val (.int i1), .val (.int i2), .val (.int i3), .val (.long v1), .second, .val (.int v2), .val (.int v3), .unset, .unset, .unset, .unset, .unset, .unset] at_25 rfl 27 rfl ?_
  obtain ⟨A, hA, hA3⟩ := own_atv hv3
  refine go_bipush X0 (19 : Int32) at_27 (by decide) 29 rfl ?_
  refine go_newA (aty := .long) X0 19 (wd2 hw) at_29 (by decide) (by decide) (by decide) (by decide) (by decide) 31 rfl (fun T4 h4 aP cA4 gA4 X4 Ex4 A4 => ?_)
  have g_p : n0 ≤ aP := by rw [gA4]; exact Z0
  have hsz0 : h0.size ≤ h4.size := Ex4.1
  have A_p : AA Z h4 aP .long 19 (fun _ => .long 0) := AA.new A4 rfl
  refine go_dup X4 at_31 rfl 32 rfl ?_
  refine go_iconst X4 (0 : Int32) at_32 (by decide) 33 rfl ?_
  refine go_lconst X4 (1 : Int64) at_33 (by decide) 34 rfl ?_
  refine go_setJ X4 A_p (by decide) (by decide) g_p at_34 35 rfl (fun T5 h5 X5 W5 B5 => ?_)
  replace A_p := B5
  replace hsz0 := Nat.le_trans hsz0 (Nat.le_of_eq W5.size.symm)
  refine go_dup X5 at_35 rfl 36 rfl ?_
  refine go_iconst X5 (1 : Int32) at_36 (by decide) 37 rfl ?_
  refine go_ldc2 X5 (wd3 hw) at_37 40 rfl ?_
  refine go_setJ X5 A_p (by decide) (by decide) g_p at_40 41 rfl (fun T6 h6 X6 W6 B6 => ?_)
  replace A_p := B6
  replace hsz0 := Nat.le_trans hsz0 (Nat.le_of_eq W6.size.symm)
  refine go_dup X6 at_41 rfl 42 rfl ?_
  refine go_iconst X6 (2 : Int32) at_42 (by decide) 43 rfl ?_
  refine go_ldc2 X6 (wd4 hw) at_43 46 rfl ?_
  refine go_setJ X6 A_p (by decide) (by decide) g_p at_46 47 rfl (fun T7 h7 X7 W7 B7 => ?_)
  replace A_p := B7
  replace hsz0 := Nat.le_trans hsz0 (Nat.le_of_eq W7.size.symm)
  refine go_dup X7 at_47 rfl 48 rfl ?_
  refine go_iconst X7 (3 : Int32) at_48 (by decide) 49 rfl ?_
  refine go_ldc2 X7 (wd5 hw) at_49 52 rfl ?_
  refine go_setJ X7 A_p (by decide) (by decide) g_p at_52 53 rfl (fun T8 h8 X8 W8 B8 => ?_)
  replace A_p := B8
  replace hsz0 := Nat.le_trans hsz0 (Nat.le_of_eq W8.size.symm)
  refine go_dup X8 at_53 rfl 54 rfl ?_
  refine go_iconst X8 (4 : Int32) at_54 (by decide) 55 rfl ?_
  refine go_ldc2 X8 (wd6 hw) at_55 58 rfl ?_
  refine go_setJ X8 A_p (by decide) (by decide) g_p at_58 59 rfl (fun T9 h9 X9 W9 B9 => ?_)
  replace A_p := B9
  replace hsz0 := Nat.le_trans hsz0 (Nat.le_of_eq W9.size.symm)
  refine go_dup X9 at_59 rfl 60 rfl ?_
  refine go_iconst X9 (5 : Int32) at_60 (by decide) 61 rfl ?_
  refine go_ldc2 X9 (wd7 hw) at_61 64 rfl ?_
  refine go_setJ X9 A_p (by decide) (by decide) g_p at_64 65 rfl (fun T10 h10 X10 W10 B10 => ?_)
  replace A_p := B10
  replace hsz0 := Nat.le_trans hsz0 (Nat.le_of_eq W10.size.symm)
  refine go_dup X10 at_65 rfl 66 rfl ?_
  refine go_bipush X10 (6 : Int32) at_66 (by decide) 68 rfl ?_
  refine go_ldc2 X10 (wd8 hw) at_68 71 rfl ?_
  refine go_setJ X10 A_p (by decide) (by decide) g_p at_71 72 rfl (fun T11 h11 X11 W11 B11 => ?_)
  replace A_p := B11
  replace hsz0 := Nat.le_trans hsz0 (Nat.le_of_eq W11.size.symm)
  refine go_dup X11 at_72 rfl 73 rfl ?_
  refine go_bipush X11 (7 : Int32) at_73 (by decide) 75 rfl ?_
  refine go_ldc2 X11 (wd9 hw) at_75 78 rfl ?_
  refine go_setJ X11 A_p (by decide) (by decide) g_p at_78 79 rfl (fun T12 h12 X12 W12 B12 => ?_)
  replace A_p := B12
  replace hsz0 := Nat.le_trans hsz0 (Nat.le_of_eq W12.size.symm)
  refine go_dup X12 at_79 rfl 80 rfl ?_
  refine go_bipush X12 (8 : Int32) at_80 (by decide) 82 rfl ?_
  refine go_ldc2 X12 (wd10 hw) at_82 85 rfl ?_
  refine go_setJ X12 A_p (by decide) (by decide) g_p at_85 86 rfl (fun T13 h13 X13 W13 B13 => ?_)
  replace A_p := B13
  replace hsz0 := Nat.le_trans hsz0 (Nat.le_of_eq W13.size.symm)
  refine go_dup X13 at_86 rfl 87 rfl ?_
  refine go_bipush X13 (9 : Int32) at_87 (by decide) 89 rfl ?_
  refine go_ldc2 X13 (wd11 hw) at_89 92 rfl ?_
  refine go_setJ X13 A_p (by decide) (by decide) g_p at_92 93 rfl (fun T14 h14 X14 W14 B14 => ?_)
  replace A_p := B14
  replace hsz0 := Nat.le_trans hsz0 (Nat.le_of_eq W14.size.symm)
  refine go_dup X14 at_93 rfl 94 rfl ?_
  refine go_bipush X14 (10 : Int32) at_94 (by decide) 96 rfl ?_
  refine go_ldc2 X14 (wd12 hw) at_96 99 rfl ?_
  refine go_setJ X14 A_p (by decide) (by decide) g_p at_99 100 rfl (fun T15 h15 X15 W15 B15 => ?_)
  replace A_p := B15
  replace hsz0 := Nat.le_trans hsz0 (Nat.le_of_eq W15.size.symm)
  refine go_dup X15 at_100 rfl 101 rfl ?_
  refine go_bipush X15 (11 : Int32) at_101 (by decide) 103 rfl ?_
  refine go_ldc2 X15 (wd13 hw) at_103 106 rfl ?_
  refine go_setJ X15 A_p (by decide) (by decide) g_p at_106 107 rfl (fun T16 h16 X16 W16 B16 => ?_)
  replace A_p := B16
  replace hsz0 := Nat.le_trans hsz0 (Nat.le_of_eq W16.size.symm)
  refine go_dup X16 at_107 rfl 108 rfl ?_
  refine go_bipush X16 (12 : Int32) at_108 (by decide) 110 rfl ?_
  refine go_ldc2 X16 (wd14 hw) at_110 113 rfl ?_
  refine go_setJ X16 A_p (by decide) (by decide) g_p at_113 114 rfl (fun T17 h17 X17 W17 B17 => ?_)
  replace A_p := B17
  replace hsz0 := Nat.le_trans hsz0 (Nat.le_of_eq W17.size.symm)
  refine go_dup X17 at_114 rfl 115 rfl ?_
  refine go_bipush X17 (13 : Int32) at_115 (by decide) 117 rfl ?_
  refine go_ldc2 X17 (wd15 hw) at_117 120 rfl ?_
  refine go_setJ X17 A_p (by decide) (by decide) g_p at_120 121 rfl (fun T18 h18 X18 W18 B18 => ?_)
  replace A_p := B18
  replace hsz0 := Nat.le_trans hsz0 (Nat.le_of_eq W18.size.symm)
  refine go_dup X18 at_121 rfl 122 rfl ?_
  refine go_bipush X18 (14 : Int32) at_122 (by decide) 124 rfl ?_
  refine go_ldc2 X18 (wd16 hw) at_124 127 rfl ?_
  refine go_setJ X18 A_p (by decide) (by decide) g_p at_127 128 rfl (fun T19 h19 X19 W19 B19 => ?_)
  replace A_p := B19
  replace hsz0 := Nat.le_trans hsz0 (Nat.le_of_eq W19.size.symm)
  refine go_dup X19 at_128 rfl 129 rfl ?_
  refine go_bipush X19 (15 : Int32) at_129 (by decide) 131 rfl ?_
  refine go_ldc2 X19 (wd17 hw) at_131 134 rfl ?_
  refine go_setJ X19 A_p (by decide) (by decide) g_p at_134 135 rfl (fun T20 h20 X20 W20 B20 => ?_)
  replace A_p := B20
  replace hsz0 := Nat.le_trans hsz0 (Nat.le_of_eq W20.size.symm)
  refine go_dup X20 at_135 rfl 136 rfl ?_
  refine go_bipush X20 (16 : Int32) at_136 (by decide) 138 rfl ?_
  refine go_ldc2 X20 (wd18 hw) at_138 141 rfl ?_
  refine go_setJ X20 A_p (by decide) (by decide) g_p at_141 142 rfl (fun T21 h21 X21 W21 B21 => ?_)
  replace A_p := B21
  replace hsz0 := Nat.le_trans hsz0 (Nat.le_of_eq W21.size.symm)
  refine go_dup X21 at_142 rfl 143 rfl ?_
  refine go_bipush X21 (17 : Int32) at_143 (by decide) 145 rfl ?_
  refine go_ldc2 X21 (wd19 hw) at_145 148 rfl ?_
  refine go_setJ X21 A_p (by decide) (by decide) g_p at_148 149 rfl (fun T22 h22 X22 W22 B22 => ?_)
  replace A_p := B22
  replace hsz0 := Nat.le_trans hsz0 (Nat.le_of_eq W22.size.symm)
  refine go_dup X22 at_149 rfl 150 rfl ?_
  refine go_bipush X22 (18 : Int32) at_150 (by decide) 152 rfl ?_
  refine go_ldc2 X22 (wd20 hw) at_152 155 rfl ?_
  refine go_setJ X22 A_p (by decide) (by decide) g_p at_155 156 rfl (fun T23 h23 X23 W23 B23 => ?_)
  replace A_p := B23
  replace hsz0 := Nat.le_trans hsz0 (Nat.le_of_eq W23.size.symm)
  replace A_p := A_p.fn (g := fun i => .long (own_pw i)) (fun i hi => by
      have h : i = 0 ∨ i = 1 ∨ i = 2 ∨ i = 3 ∨ i = 4 ∨ i = 5 ∨ i = 6 ∨ i = 7 ∨ i = 8 ∨ i = 9 ∨ i = 10 ∨ i = 11 ∨ i = 12 ∨ i = 13 ∨ i = 14 ∨ i = 15 ∨ i = 16 ∨ i = 17 ∨ i = 18 := by omega
      rcases h with rfl | rfl | rfl | rfl | rfl | rfl | rfl | rfl | rfl | rfl | rfl | rfl | rfl | rfl | rfl | rfl | rfl | rfl | rfl <;> rfl)
  refine go_astore X23 #[.val (.long i0), .second, .val (.int i1), .val (.int i2), .val (.int i3), .val (.long v1), .second, .val (.int v2), .val (.int v3), .val (.ref aP), .unset, .unset, .unset, .unset, .unset] at_156 rfl rfl 158 rfl ?_
  refine go_lload X23 at_158 rfl 160 rfl ?_
  refine go_aload X23 at_160 rfl rfl 162 rfl ?_
  refine go_callS X23 0 [(.long v1), (.ref aP)] [] (wd21 hw) (wd22 hw) (wd23 hw) (wd24 hw) (by decide) (rm2 l Z a0 hw [] h23 n0 v1 aP  A_p) (by decide) (by decide) rfl (lenOf pd_1 rfl) rfl rfl (Nat.le_of_eq rfl) at_162 (by decide) (by decide) 165 rfl PQ.fr (PQ.k (fun T24 X24 => ?_))
  show Go p e below E m T24 165 #[.val (.long i0), .second, .val (.int i1), .val (.int i2), .val (.int i3), .val (.long v1), .second, .val (.int v2), .val (.int v3), .val (.ref aP), .unset, .unset, .unset, .unset, .unset] [(.int (own_digits v1))]
  rw [(by rw [own_digits] : (own_digits v1) = (((((((((((((((((((1 : Int32) + (own_ge v1 (1 : Int32))) + (own_ge v1 (2 : Int32))) + (own_ge v1 (3 : Int32))) + (own_ge v1 (4 : Int32))) + (own_ge v1 (5 : Int32))) + (own_ge v1 (6 : Int32))) + (own_ge v1 (7 : Int32))) + (own_ge v1 (8 : Int32))) + (own_ge v1 (9 : Int32))) + (own_ge v1 (10 : Int32))) + (own_ge v1 (11 : Int32))) + (own_ge v1 (12 : Int32))) + (own_ge v1 (13 : Int32))) + (own_ge v1 (14 : Int32))) + (own_ge v1 (15 : Int32))) + (own_ge v1 (16 : Int32))) + (own_ge v1 (17 : Int32))) + (own_ge v1 (18 : Int32))))]
  refine go_nmI (fun v25 hv25 => ?_)
  refine go_istore X24 #[.val (.long i0), .second, .val (.int i1), .val (.int i2), .val (.int i3), .val (.long v1), .second, .val (.int v2), .val (.int v3), .val (.ref aP), .val (.int v25), .unset, .unset, .unset, .unset] at_165 rfl 167 rfl ?_
  refine go_iconst X24 (1 : Int32) at_167 (by decide) 168 rfl ?_
  refine go_iload X24 at_168 rfl 170 rfl ?_
  refine go_iload X24 at_170 rfl 172 rfl ?_
  refine go_isub X24 at_172 173 rfl ?_
  refine go_callS X24 0 [(.int (1 : Int32)), (.int (v25 - v2))] [] (wd28 hw) (wd29 hw) (wd30 hw) (wd31 hw) (by decide) (rm3 l Z a0 hw [] h23 n0 (1 : Int32) (v25 - v2)  ) (by decide) (by decide) rfl (lenOf pd_2 rfl) rfl rfl (Nat.le_of_eq rfl) at_173 (by decide) (by decide) 176 rfl PQ.fr (PQ.k (fun T26 X26 => ?_))
  show Go p e below E m T26 176 #[.val (.long i0), .second, .val (.int i1), .val (.int i2), .val (.int i3), .val (.long v1), .second, .val (.int v2), .val (.int v3), .val (.ref aP), .val (.int v25), .unset, .unset, .unset, .unset] [(.int (own_max (1 : Int32) (v25 - v2)))]
  refine go_nmI (fun v27 hv27 => ?_)
  refine go_istore X26 #[.val (.long i0), .second, .val (.int i1), .val (.int i2), .val (.int i3), .val (.long v1), .second, .val (.int v2), .val (.int v3), .val (.ref aP), .val (.int v25), .val (.int v27), .unset, .unset, .unset] at_176 rfl 178 rfl ?_
  refine go_iload X26 at_178 rfl 180 rfl ?_
  refine go_cut (A := ∀ z28 : Int32, z28 = (if v2 = (0 : Int32) then v27 else ((v27 + (1 : Int32)) + v2)) → Go p e below E m T26 195 #[.val (.long i0), .second, .val (.int i1), .val (.int i2), .val (.int i3), .val (.long v1), .second, .val (.int v2), .val (.int v3), .val (.ref aP), .val (.int v25), .val (.int v27), .unset, .unset, .unset] [(.int z28)]) ?_ ?_
  · intro J29
    refine go_if X26 183 188 at_180 rfl (by decide) (by decide) ?_ ?_
    · intro (c30 : ¬ (v2 = (0 : Int32)))
      refine go_iload X26 at_188 rfl 190 rfl ?_
      refine go_iconst X26 (1 : Int32) at_190 (by decide) 191 rfl ?_
      refine go_iadd X26 at_191 192 rfl ?_
      refine go_iload X26 at_192 rfl 194 rfl ?_
      refine go_iadd X26 at_194 195 rfl ?_
      exact J29 _ (by first | rw [if_neg c30] | simp only [c30, if_true, if_false, ite_self] | rfl)
    intro c30
    replace c30 : v2 = (0 : Int32) := Decidable.not_not.mp c30
    refine go_iload X26 at_183 rfl 185 rfl ?_
    refine go_goto X26 195 at_185 (by decide) (by decide) ?_
    exact J29 _ (by first | rw [if_pos c30] | simp only [c30, if_true, if_false, ite_self] | rfl)
  intro z28 hz28
  refine go_istore X26 #[.val (.long i0), .second, .val (.int i1), .val (.int i2), .val (.int i3), .val (.long v1), .second, .val (.int v2), .val (.int v3), .val (.ref aP), .val (.int v25), .val (.int v27), .val (.int z28), .unset, .unset] at_195 rfl 197 rfl ?_
  refine go_bipush X26 (24 : Int32) at_197 (by decide) 199 rfl ?_
  refine go_newA (aty := .byte) X26 24 (wd32 hw) at_199 (by decide) (by decide) (by decide) (by decide) (by decide) 201 rfl (fun T31 h31 aB cA31 gA31 X31 Ex31 A31 => ?_)
  have g_b : n0 ≤ aB := by rw [gA31]; exact Nat.le_trans Z0 hsz0
  have neP : aP ≠ aB := by rw [gA31]; exact Nat.ne_of_lt A_p.lt
  replace A_p := A_p.ext Ex31
  have A_b : AA Z h31 aB .byte 24 (fun _ => .int 0) := AA.new A31 rfl
  refine go_astore X31 #[.val (.long i0), .second, .val (.int i1), .val (.int i2), .val (.int i3), .val (.long v1), .second, .val (.int v2), .val (.int v3), .val (.ref aP), .val (.int v25), .val (.int v27), .val (.int z28), .val (.ref aB), .unset] at_201 rfl rfl 203 rfl ?_
  refine go_aload X31 at_203 rfl rfl 205 rfl ?_
  refine go_iload X31 at_205 rfl 207 rfl ?_
  refine go_lload X31 at_207 rfl 209 rfl ?_
  refine go_iload X31 at_209 rfl 211 rfl ?_
  refine go_callS X31 0 [(.ref aB), (.int v3), (.long v1), (.int v2)] [] (wd33 hw) (wd34 hw) (wd35 hw) (wd36 hw) (by decide) (rm4 l Z a0 hw [] h31 n0 aB v3 v2 v1 A P Un hA hP hU hA3 hP18 hU63 g_b A_b) (by decide) (by decide) rfl (lenOf pd_3 rfl) rfl rfl (Nat.le_of_eq rfl) at_211 (by decide) (by decide) 214 rfl WDQ.fr (fun w32 T32 L32 h32 X32 q32 => ?_)
  obtain ⟨-, K32, nd, hnd, ⟨ev, rfl, hev⟩, A_b⟩ := q32
  replace A_p := A_p.keep K32 (ninS neP nin0)
  show Go p e below E m T32 214 #[.val (.long i0), .second, .val (.int i1), .val (.int i2), .val (.int i3), .val (.long v1), .second, .val (.int v2), .val (.int v3), .val (.ref aP), .val (.int v25), .val (.int v27), .val (.int z28), .val (.ref aB), .unset] [(.int ev)]
  refine go_istore X32 #[.val (.long i0), .second, .val (.int i1), .val (.int i2), .val (.int i3), .val (.long v1), .second, .val (.int v2), .val (.int v3), .val (.ref aP), .val (.int v25), .val (.int v27), .val (.int z28), .val (.ref aB), .val (.int ev)] at_214 rfl 216 rfl ?_
  have hlen : z28.toInt = ((own_S P + nd : Nat) : Int) := own_lenS hP hU hU63 hP18 hnd hv25 hv27 hz28
  refine go_iload X32 at_216 rfl 218 rfl ?_
  refine go_iload X32 at_218 rfl 220 rfl ?_
  refine go_iload X32 at_220 rfl 222 rfl ?_
  refine go_iadd X32 at_222 223 rfl ?_
  refine go_icmp X32 226 228 at_223 rfl (by decide) (by decide) ?_ ?_
  rotate_left
  · intro (c33 : ¬ (ev = (v3 + z28)))
    exfalso
    exact c33 (own_endeq hev hA hlen)
  intro (c33 : ev = (v3 + z28))
  refine go_aload X32 at_228 rfl rfl 230 rfl ?_
  refine go_iconst X32 (0 : Int32) at_230 (by decide) 231 rfl ?_
  refine go_iload X32 at_231 rfl 233 rfl ?_
  refine go_iload X32 at_233 rfl 235 rfl ?_
  refine go_lload X32 at_235 rfl 237 rfl ?_
  refine go_iload X32 at_237 rfl 239 rfl ?_
  refine go_aload X32 at_239 rfl rfl 241 rfl ?_
  refine go_callS X32 0 [(.ref aB), (.int (0 : Int32)), (.int v3), (.int z28), (.long v1), (.int v2), (.ref aP)] [] (wd39 hw) (wd40 hw) (wd23 hw) (wd41 hw) (by decide) (rm5 l Z a0 hw [] h32 n0 aB (0 : Int32) v3 z28 v1 v2 aP A P Un nd 0 _ hA hP hU hA3 hP18 hU63 hnd rfl rfl (by decide) hlen A_b A_p) (by decide) (by decide) rfl (lenOf pd_4 rfl) rfl rfl (Nat.le_of_eq rfl) at_241 (by decide) (by decide) 244 rfl PQ.fr (PQ.k (fun T34 X34 => ?_))
  show Go p e below E m T34 244 #[.val (.long i0), .second, .val (.int i1), .val (.int i2), .val (.int i3), .val (.long v1), .second, .val (.int v2), .val (.int v3), .val (.ref aP), .val (.int v25), .val (.int v27), .val (.int z28), .val (.ref aB), .val (.int ev)] [(.int (1 : Int32))]
  refine go_if X34 247 706 at_244 rfl (by decide) (by decide) (fun (hh : (1 : Int32) = (0 : Int32)) => absurd hh (by decide : ¬ ((1 : Int32) = (0 : Int32)))) (fun _ => ?_)
  refine go_aload X34 at_247 rfl rfl 249 rfl ?_
  refine go_iconst X34 (1 : Int32) at_249 (by decide) 250 rfl ?_
  refine go_iload X34 at_250 rfl 252 rfl ?_
  refine go_iload X34 at_252 rfl 254 rfl ?_
  refine go_lload X34 at_254 rfl 256 rfl ?_
  refine go_iload X34 at_256 rfl 258 rfl ?_
  refine go_aload X34 at_258 rfl rfl 260 rfl ?_
  refine go_callS X34 0 [(.ref aB), (.int (1 : Int32)), (.int v3), (.int z28), (.long v1), (.int v2), (.ref aP)] [] (wd39 hw) (wd40 hw) (wd23 hw) (wd41 hw) (by decide) (rm5 l Z a0 hw [] h32 n0 aB (1 : Int32) v3 z28 v1 v2 aP A P Un nd 1 _ hA hP hU hA3 hP18 hU63 hnd rfl rfl (by decide) hlen A_b A_p) (by decide) (by decide) rfl (lenOf pd_4 rfl) rfl rfl (Nat.le_of_eq rfl) at_260 (by decide) (by decide) 263 rfl PQ.fr (PQ.k (fun T35 X35 => ?_))
  show Go p e below E m T35 263 #[.val (.long i0), .second, .val (.int i1), .val (.int i2), .val (.int i3), .val (.long v1), .second, .val (.int v2), .val (.int v3), .val (.ref aP), .val (.int v25), .val (.int v27), .val (.int z28), .val (.ref aB), .val (.int ev)] [(.int (1 : Int32))]
  refine go_if X35 266 706 at_263 rfl (by decide) (by decide) (fun (hh : (1 : Int32) = (0 : Int32)) => absurd hh (by decide : ¬ ((1 : Int32) = (0 : Int32)))) (fun _ => ?_)
  refine go_aload X35 at_266 rfl rfl 268 rfl ?_
  refine go_iconst X35 (2 : Int32) at_268 (by decide) 269 rfl ?_
  refine go_iload X35 at_269 rfl 271 rfl ?_
  refine go_iload X35 at_271 rfl 273 rfl ?_
  refine go_lload X35 at_273 rfl 275 rfl ?_
  refine go_iload X35 at_275 rfl 277 rfl ?_
  refine go_aload X35 at_277 rfl rfl 279 rfl ?_
  refine go_callS X35 0 [(.ref aB), (.int (2 : Int32)), (.int v3), (.int z28), (.long v1), (.int v2), (.ref aP)] [] (wd39 hw) (wd40 hw) (wd23 hw) (wd41 hw) (by decide) (rm5 l Z a0 hw [] h32 n0 aB (2 : Int32) v3 z28 v1 v2 aP A P Un nd 2 _ hA hP hU hA3 hP18 hU63 hnd rfl rfl (by decide) hlen A_b A_p) (by decide) (by decide) rfl (lenOf pd_4 rfl) rfl rfl (Nat.le_of_eq rfl) at_279 (by decide) (by decide) 282 rfl PQ.fr (PQ.k (fun T36 X36 => ?_))
  show Go p e below E m T36 282 #[.val (.long i0), .second, .val (.int i1), .val (.int i2), .val (.int i3), .val (.long v1), .second, .val (.int v2), .val (.int v3), .val (.ref aP), .val (.int v25), .val (.int v27), .val (.int z28), .val (.ref aB), .val (.int ev)] [(.int (1 : Int32))]
  refine go_if X36 285 706 at_282 rfl (by decide) (by decide) (fun (hh : (1 : Int32) = (0 : Int32)) => absurd hh (by decide : ¬ ((1 : Int32) = (0 : Int32)))) (fun _ => ?_)
  refine go_aload X36 at_285 rfl rfl 287 rfl ?_
  refine go_iconst X36 (3 : Int32) at_287 (by decide) 288 rfl ?_
  refine go_iload X36 at_288 rfl 290 rfl ?_
  refine go_iload X36 at_290 rfl 292 rfl ?_
  refine go_lload X36 at_292 rfl 294 rfl ?_
  refine go_iload X36 at_294 rfl 296 rfl ?_
  refine go_aload X36 at_296 rfl rfl 298 rfl ?_
  refine go_callS X36 0 [(.ref aB), (.int (3 : Int32)), (.int v3), (.int z28), (.long v1), (.int v2), (.ref aP)] [] (wd39 hw) (wd40 hw) (wd23 hw) (wd41 hw) (by decide) (rm5 l Z a0 hw [] h32 n0 aB (3 : Int32) v3 z28 v1 v2 aP A P Un nd 3 _ hA hP hU hA3 hP18 hU63 hnd rfl rfl (by decide) hlen A_b A_p) (by decide) (by decide) rfl (lenOf pd_4 rfl) rfl rfl (Nat.le_of_eq rfl) at_298 (by decide) (by decide) 301 rfl PQ.fr (PQ.k (fun T37 X37 => ?_))
  show Go p e below E m T37 301 #[.val (.long i0), .second, .val (.int i1), .val (.int i2), .val (.int i3), .val (.long v1), .second, .val (.int v2), .val (.int v3), .val (.ref aP), .val (.int v25), .val (.int v27), .val (.int z28), .val (.ref aB), .val (.int ev)] [(.int (1 : Int32))]
  refine go_if X37 304 706 at_301 rfl (by decide) (by decide) (fun (hh : (1 : Int32) = (0 : Int32)) => absurd hh (by decide : ¬ ((1 : Int32) = (0 : Int32)))) (fun _ => ?_)
  refine go_aload X37 at_304 rfl rfl 306 rfl ?_
  refine go_iconst X37 (4 : Int32) at_306 (by decide) 307 rfl ?_
  refine go_iload X37 at_307 rfl 309 rfl ?_
  refine go_iload X37 at_309 rfl 311 rfl ?_
  refine go_lload X37 at_311 rfl 313 rfl ?_
  refine go_iload X37 at_313 rfl 315 rfl ?_
  refine go_aload X37 at_315 rfl rfl 317 rfl ?_
  refine go_callS X37 0 [(.ref aB), (.int (4 : Int32)), (.int v3), (.int z28), (.long v1), (.int v2), (.ref aP)] [] (wd39 hw) (wd40 hw) (wd23 hw) (wd41 hw) (by decide) (rm5 l Z a0 hw [] h32 n0 aB (4 : Int32) v3 z28 v1 v2 aP A P Un nd 4 _ hA hP hU hA3 hP18 hU63 hnd rfl rfl (by decide) hlen A_b A_p) (by decide) (by decide) rfl (lenOf pd_4 rfl) rfl rfl (Nat.le_of_eq rfl) at_317 (by decide) (by decide) 320 rfl PQ.fr (PQ.k (fun T38 X38 => ?_))
  show Go p e below E m T38 320 #[.val (.long i0), .second, .val (.int i1), .val (.int i2), .val (.int i3), .val (.long v1), .second, .val (.int v2), .val (.int v3), .val (.ref aP), .val (.int v25), .val (.int v27), .val (.int z28), .val (.ref aB), .val (.int ev)] [(.int (1 : Int32))]
  refine go_if X38 323 706 at_320 rfl (by decide) (by decide) (fun (hh : (1 : Int32) = (0 : Int32)) => absurd hh (by decide : ¬ ((1 : Int32) = (0 : Int32)))) (fun _ => ?_)
  refine go_aload X38 at_323 rfl rfl 325 rfl ?_
  refine go_iconst X38 (5 : Int32) at_325 (by decide) 326 rfl ?_
  refine go_iload X38 at_326 rfl 328 rfl ?_
  refine go_iload X38 at_328 rfl 330 rfl ?_
  refine go_lload X38 at_330 rfl 332 rfl ?_
  refine go_iload X38 at_332 rfl 334 rfl ?_
  refine go_aload X38 at_334 rfl rfl 336 rfl ?_
  refine go_callS X38 0 [(.ref aB), (.int (5 : Int32)), (.int v3), (.int z28), (.long v1), (.int v2), (.ref aP)] [] (wd39 hw) (wd40 hw) (wd23 hw) (wd41 hw) (by decide) (rm5 l Z a0 hw [] h32 n0 aB (5 : Int32) v3 z28 v1 v2 aP A P Un nd 5 _ hA hP hU hA3 hP18 hU63 hnd rfl rfl (by decide) hlen A_b A_p) (by decide) (by decide) rfl (lenOf pd_4 rfl) rfl rfl (Nat.le_of_eq rfl) at_336 (by decide) (by decide) 339 rfl PQ.fr (PQ.k (fun T39 X39 => ?_))
  show Go p e below E m T39 339 #[.val (.long i0), .second, .val (.int i1), .val (.int i2), .val (.int i3), .val (.long v1), .second, .val (.int v2), .val (.int v3), .val (.ref aP), .val (.int v25), .val (.int v27), .val (.int z28), .val (.ref aB), .val (.int ev)] [(.int (1 : Int32))]
  refine go_if X39 342 706 at_339 rfl (by decide) (by decide) (fun (hh : (1 : Int32) = (0 : Int32)) => absurd hh (by decide : ¬ ((1 : Int32) = (0 : Int32)))) (fun _ => ?_)
  refine go_aload X39 at_342 rfl rfl 344 rfl ?_
  refine go_bipush X39 (6 : Int32) at_344 (by decide) 346 rfl ?_
  refine go_iload X39 at_346 rfl 348 rfl ?_
  refine go_iload X39 at_348 rfl 350 rfl ?_
  refine go_lload X39 at_350 rfl 352 rfl ?_
  refine go_iload X39 at_352 rfl 354 rfl ?_
  refine go_aload X39 at_354 rfl rfl 356 rfl ?_
  refine go_callS X39 0 [(.ref aB), (.int (6 : Int32)), (.int v3), (.int z28), (.long v1), (.int v2), (.ref aP)] [] (wd39 hw) (wd40 hw) (wd23 hw) (wd41 hw) (by decide) (rm5 l Z a0 hw [] h32 n0 aB (6 : Int32) v3 z28 v1 v2 aP A P Un nd 6 _ hA hP hU hA3 hP18 hU63 hnd rfl rfl (by decide) hlen A_b A_p) (by decide) (by decide) rfl (lenOf pd_4 rfl) rfl rfl (Nat.le_of_eq rfl) at_356 (by decide) (by decide) 359 rfl PQ.fr (PQ.k (fun T40 X40 => ?_))
  show Go p e below E m T40 359 #[.val (.long i0), .second, .val (.int i1), .val (.int i2), .val (.int i3), .val (.long v1), .second, .val (.int v2), .val (.int v3), .val (.ref aP), .val (.int v25), .val (.int v27), .val (.int z28), .val (.ref aB), .val (.int ev)] [(.int (1 : Int32))]
  refine go_if X40 362 706 at_359 rfl (by decide) (by decide) (fun (hh : (1 : Int32) = (0 : Int32)) => absurd hh (by decide : ¬ ((1 : Int32) = (0 : Int32)))) (fun _ => ?_)
  refine go_aload X40 at_362 rfl rfl 364 rfl ?_
  refine go_bipush X40 (7 : Int32) at_364 (by decide) 366 rfl ?_
  refine go_iload X40 at_366 rfl 368 rfl ?_
  refine go_iload X40 at_368 rfl 370 rfl ?_
  refine go_lload X40 at_370 rfl 372 rfl ?_
  refine go_iload X40 at_372 rfl 374 rfl ?_
  refine go_aload X40 at_374 rfl rfl 376 rfl ?_
  refine go_callS X40 0 [(.ref aB), (.int (7 : Int32)), (.int v3), (.int z28), (.long v1), (.int v2), (.ref aP)] [] (wd39 hw) (wd40 hw) (wd23 hw) (wd41 hw) (by decide) (rm5 l Z a0 hw [] h32 n0 aB (7 : Int32) v3 z28 v1 v2 aP A P Un nd 7 _ hA hP hU hA3 hP18 hU63 hnd rfl rfl (by decide) hlen A_b A_p) (by decide) (by decide) rfl (lenOf pd_4 rfl) rfl rfl (Nat.le_of_eq rfl) at_376 (by decide) (by decide) 379 rfl PQ.fr (PQ.k (fun T41 X41 => ?_))
  show Go p e below E m T41 379 #[.val (.long i0), .second, .val (.int i1), .val (.int i2), .val (.int i3), .val (.long v1), .second, .val (.int v2), .val (.int v3), .val (.ref aP), .val (.int v25), .val (.int v27), .val (.int z28), .val (.ref aB), .val (.int ev)] [(.int (1 : Int32))]
  refine go_if X41 382 706 at_379 rfl (by decide) (by decide) (fun (hh : (1 : Int32) = (0 : Int32)) => absurd hh (by decide : ¬ ((1 : Int32) = (0 : Int32)))) (fun _ => ?_)
  refine go_aload X41 at_382 rfl rfl 384 rfl ?_
  refine go_bipush X41 (8 : Int32) at_384 (by decide) 386 rfl ?_
  refine go_iload X41 at_386 rfl 388 rfl ?_
  refine go_iload X41 at_388 rfl 390 rfl ?_
  refine go_lload X41 at_390 rfl 392 rfl ?_
  refine go_iload X41 at_392 rfl 394 rfl ?_
  refine go_aload X41 at_394 rfl rfl 396 rfl ?_
  refine go_callS X41 0 [(.ref aB), (.int (8 : Int32)), (.int v3), (.int z28), (.long v1), (.int v2), (.ref aP)] [] (wd39 hw) (wd40 hw) (wd23 hw) (wd41 hw) (by decide) (rm5 l Z a0 hw [] h32 n0 aB (8 : Int32) v3 z28 v1 v2 aP A P Un nd 8 _ hA hP hU hA3 hP18 hU63 hnd rfl rfl (by decide) hlen A_b A_p) (by decide) (by decide) rfl (lenOf pd_4 rfl) rfl rfl (Nat.le_of_eq rfl) at_396 (by decide) (by decide) 399 rfl PQ.fr (PQ.k (fun T42 X42 => ?_))
  show Go p e below E m T42 399 #[.val (.long i0), .second, .val (.int i1), .val (.int i2), .val (.int i3), .val (.long v1), .second, .val (.int v2), .val (.int v3), .val (.ref aP), .val (.int v25), .val (.int v27), .val (.int z28), .val (.ref aB), .val (.int ev)] [(.int (1 : Int32))]
  refine go_if X42 402 706 at_399 rfl (by decide) (by decide) (fun (hh : (1 : Int32) = (0 : Int32)) => absurd hh (by decide : ¬ ((1 : Int32) = (0 : Int32)))) (fun _ => ?_)
  refine go_aload X42 at_402 rfl rfl 404 rfl ?_
  refine go_bipush X42 (9 : Int32) at_404 (by decide) 406 rfl ?_
  refine go_iload X42 at_406 rfl 408 rfl ?_
  refine go_iload X42 at_408 rfl 410 rfl ?_
  refine go_lload X42 at_410 rfl 412 rfl ?_
  refine go_iload X42 at_412 rfl 414 rfl ?_
  refine go_aload X42 at_414 rfl rfl 416 rfl ?_
  refine go_callS X42 0 [(.ref aB), (.int (9 : Int32)), (.int v3), (.int z28), (.long v1), (.int v2), (.ref aP)] [] (wd39 hw) (wd40 hw) (wd23 hw) (wd41 hw) (by decide) (rm5 l Z a0 hw [] h32 n0 aB (9 : Int32) v3 z28 v1 v2 aP A P Un nd 9 _ hA hP hU hA3 hP18 hU63 hnd rfl rfl (by decide) hlen A_b A_p) (by decide) (by decide) rfl (lenOf pd_4 rfl) rfl rfl (Nat.le_of_eq rfl) at_416 (by decide) (by decide) 419 rfl PQ.fr (PQ.k (fun T43 X43 => ?_))
  show Go p e below E m T43 419 #[.val (.long i0), .second, .val (.int i1), .val (.int i2), .val (.int i3), .val (.long v1), .second, .val (.int v2), .val (.int v3), .val (.ref aP), .val (.int v25), .val (.int v27), .val (.int z28), .val (.ref aB), .val (.int ev)] [(.int (1 : Int32))]
  refine go_if X43 422 706 at_419 rfl (by decide) (by decide) (fun (hh : (1 : Int32) = (0 : Int32)) => absurd hh (by decide : ¬ ((1 : Int32) = (0 : Int32)))) (fun _ => ?_)
  refine go_aload X43 at_422 rfl rfl 424 rfl ?_
  refine go_bipush X43 (10 : Int32) at_424 (by decide) 426 rfl ?_
  refine go_iload X43 at_426 rfl 428 rfl ?_
  refine go_iload X43 at_428 rfl 430 rfl ?_
  refine go_lload X43 at_430 rfl 432 rfl ?_
  refine go_iload X43 at_432 rfl 434 rfl ?_
  refine go_aload X43 at_434 rfl rfl 436 rfl ?_
  refine go_callS X43 0 [(.ref aB), (.int (10 : Int32)), (.int v3), (.int z28), (.long v1), (.int v2), (.ref aP)] [] (wd39 hw) (wd40 hw) (wd23 hw) (wd41 hw) (by decide) (rm5 l Z a0 hw [] h32 n0 aB (10 : Int32) v3 z28 v1 v2 aP A P Un nd 10 _ hA hP hU hA3 hP18 hU63 hnd rfl rfl (by decide) hlen A_b A_p) (by decide) (by decide) rfl (lenOf pd_4 rfl) rfl rfl (Nat.le_of_eq rfl) at_436 (by decide) (by decide) 439 rfl PQ.fr (PQ.k (fun T44 X44 => ?_))
  show Go p e below E m T44 439 #[.val (.long i0), .second, .val (.int i1), .val (.int i2), .val (.int i3), .val (.long v1), .second, .val (.int v2), .val (.int v3), .val (.ref aP), .val (.int v25), .val (.int v27), .val (.int z28), .val (.ref aB), .val (.int ev)] [(.int (1 : Int32))]
  refine go_if X44 442 706 at_439 rfl (by decide) (by decide) (fun (hh : (1 : Int32) = (0 : Int32)) => absurd hh (by decide : ¬ ((1 : Int32) = (0 : Int32)))) (fun _ => ?_)
  refine go_aload X44 at_442 rfl rfl 444 rfl ?_
  refine go_bipush X44 (11 : Int32) at_444 (by decide) 446 rfl ?_
  refine go_iload X44 at_446 rfl 448 rfl ?_
  refine go_iload X44 at_448 rfl 450 rfl ?_
  refine go_lload X44 at_450 rfl 452 rfl ?_
  refine go_iload X44 at_452 rfl 454 rfl ?_
  refine go_aload X44 at_454 rfl rfl 456 rfl ?_
  refine go_callS X44 0 [(.ref aB), (.int (11 : Int32)), (.int v3), (.int z28), (.long v1), (.int v2), (.ref aP)] [] (wd39 hw) (wd40 hw) (wd23 hw) (wd41 hw) (by decide) (rm5 l Z a0 hw [] h32 n0 aB (11 : Int32) v3 z28 v1 v2 aP A P Un nd 11 _ hA hP hU hA3 hP18 hU63 hnd rfl rfl (by decide) hlen A_b A_p) (by decide) (by decide) rfl (lenOf pd_4 rfl) rfl rfl (Nat.le_of_eq rfl) at_456 (by decide) (by decide) 459 rfl PQ.fr (PQ.k (fun T45 X45 => ?_))
  show Go p e below E m T45 459 #[.val (.long i0), .second, .val (.int i1), .val (.int i2), .val (.int i3), .val (.long v1), .second, .val (.int v2), .val (.int v3), .val (.ref aP), .val (.int v25), .val (.int v27), .val (.int z28), .val (.ref aB), .val (.int ev)] [(.int (1 : Int32))]
  refine go_if X45 462 706 at_459 rfl (by decide) (by decide) (fun (hh : (1 : Int32) = (0 : Int32)) => absurd hh (by decide : ¬ ((1 : Int32) = (0 : Int32)))) (fun _ => ?_)
  refine go_aload X45 at_462 rfl rfl 464 rfl ?_
  refine go_bipush X45 (12 : Int32) at_464 (by decide) 466 rfl ?_
  refine go_iload X45 at_466 rfl 468 rfl ?_
  refine go_iload X45 at_468 rfl 470 rfl ?_
  refine go_lload X45 at_470 rfl 472 rfl ?_
  refine go_iload X45 at_472 rfl 474 rfl ?_
  refine go_aload X45 at_474 rfl rfl 476 rfl ?_
  refine go_callS X45 0 [(.ref aB), (.int (12 : Int32)), (.int v3), (.int z28), (.long v1), (.int v2), (.ref aP)] [] (wd39 hw) (wd40 hw) (wd23 hw) (wd41 hw) (by decide) (rm5 l Z a0 hw [] h32 n0 aB (12 : Int32) v3 z28 v1 v2 aP A P Un nd 12 _ hA hP hU hA3 hP18 hU63 hnd rfl rfl (by decide) hlen A_b A_p) (by decide) (by decide) rfl (lenOf pd_4 rfl) rfl rfl (Nat.le_of_eq rfl) at_476 (by decide) (by decide) 479 rfl PQ.fr (PQ.k (fun T46 X46 => ?_))
  show Go p e below E m T46 479 #[.val (.long i0), .second, .val (.int i1), .val (.int i2), .val (.int i3), .val (.long v1), .second, .val (.int v2), .val (.int v3), .val (.ref aP), .val (.int v25), .val (.int v27), .val (.int z28), .val (.ref aB), .val (.int ev)] [(.int (1 : Int32))]
  refine go_if X46 482 706 at_479 rfl (by decide) (by decide) (fun (hh : (1 : Int32) = (0 : Int32)) => absurd hh (by decide : ¬ ((1 : Int32) = (0 : Int32)))) (fun _ => ?_)
  refine go_aload X46 at_482 rfl rfl 484 rfl ?_
  refine go_bipush X46 (13 : Int32) at_484 (by decide) 486 rfl ?_
  refine go_iload X46 at_486 rfl 488 rfl ?_
  refine go_iload X46 at_488 rfl 490 rfl ?_
  refine go_lload X46 at_490 rfl 492 rfl ?_
  refine go_iload X46 at_492 rfl 494 rfl ?_
  refine go_aload X46 at_494 rfl rfl 496 rfl ?_
  refine go_callS X46 0 [(.ref aB), (.int (13 : Int32)), (.int v3), (.int z28), (.long v1), (.int v2), (.ref aP)] [] (wd39 hw) (wd40 hw) (wd23 hw) (wd41 hw) (by decide) (rm5 l Z a0 hw [] h32 n0 aB (13 : Int32) v3 z28 v1 v2 aP A P Un nd 13 _ hA hP hU hA3 hP18 hU63 hnd rfl rfl (by decide) hlen A_b A_p) (by decide) (by decide) rfl (lenOf pd_4 rfl) rfl rfl (Nat.le_of_eq rfl) at_496 (by decide) (by decide) 499 rfl PQ.fr (PQ.k (fun T47 X47 => ?_))
  show Go p e below E m T47 499 #[.val (.long i0), .second, .val (.int i1), .val (.int i2), .val (.int i3), .val (.long v1), .second, .val (.int v2), .val (.int v3), .val (.ref aP), .val (.int v25), .val (.int v27), .val (.int z28), .val (.ref aB), .val (.int ev)] [(.int (1 : Int32))]
  refine go_if X47 502 706 at_499 rfl (by decide) (by decide) (fun (hh : (1 : Int32) = (0 : Int32)) => absurd hh (by decide : ¬ ((1 : Int32) = (0 : Int32)))) (fun _ => ?_)
  refine go_aload X47 at_502 rfl rfl 504 rfl ?_
  refine go_bipush X47 (14 : Int32) at_504 (by decide) 506 rfl ?_
  refine go_iload X47 at_506 rfl 508 rfl ?_
  refine go_iload X47 at_508 rfl 510 rfl ?_
  refine go_lload X47 at_510 rfl 512 rfl ?_
  refine go_iload X47 at_512 rfl 514 rfl ?_
  refine go_aload X47 at_514 rfl rfl 516 rfl ?_
  refine go_callS X47 0 [(.ref aB), (.int (14 : Int32)), (.int v3), (.int z28), (.long v1), (.int v2), (.ref aP)] [] (wd39 hw) (wd40 hw) (wd23 hw) (wd41 hw) (by decide) (rm5 l Z a0 hw [] h32 n0 aB (14 : Int32) v3 z28 v1 v2 aP A P Un nd 14 _ hA hP hU hA3 hP18 hU63 hnd rfl rfl (by decide) hlen A_b A_p) (by decide) (by decide) rfl (lenOf pd_4 rfl) rfl rfl (Nat.le_of_eq rfl) at_516 (by decide) (by decide) 519 rfl PQ.fr (PQ.k (fun T48 X48 => ?_))
  show Go p e below E m T48 519 #[.val (.long i0), .second, .val (.int i1), .val (.int i2), .val (.int i3), .val (.long v1), .second, .val (.int v2), .val (.int v3), .val (.ref aP), .val (.int v25), .val (.int v27), .val (.int z28), .val (.ref aB), .val (.int ev)] [(.int (1 : Int32))]
  refine go_if X48 522 706 at_519 rfl (by decide) (by decide) (fun (hh : (1 : Int32) = (0 : Int32)) => absurd hh (by decide : ¬ ((1 : Int32) = (0 : Int32)))) (fun _ => ?_)
  refine go_aload X48 at_522 rfl rfl 524 rfl ?_
  refine go_bipush X48 (15 : Int32) at_524 (by decide) 526 rfl ?_
  refine go_iload X48 at_526 rfl 528 rfl ?_
  refine go_iload X48 at_528 rfl 530 rfl ?_
  refine go_lload X48 at_530 rfl 532 rfl ?_
  refine go_iload X48 at_532 rfl 534 rfl ?_
  refine go_aload X48 at_534 rfl rfl 536 rfl ?_
  refine go_callS X48 0 [(.ref aB), (.int (15 : Int32)), (.int v3), (.int z28), (.long v1), (.int v2), (.ref aP)] [] (wd39 hw) (wd40 hw) (wd23 hw) (wd41 hw) (by decide) (rm5 l Z a0 hw [] h32 n0 aB (15 : Int32) v3 z28 v1 v2 aP A P Un nd 15 _ hA hP hU hA3 hP18 hU63 hnd rfl rfl (by decide) hlen A_b A_p) (by decide) (by decide) rfl (lenOf pd_4 rfl) rfl rfl (Nat.le_of_eq rfl) at_536 (by decide) (by decide) 539 rfl PQ.fr (PQ.k (fun T49 X49 => ?_))
  show Go p e below E m T49 539 #[.val (.long i0), .second, .val (.int i1), .val (.int i2), .val (.int i3), .val (.long v1), .second, .val (.int v2), .val (.int v3), .val (.ref aP), .val (.int v25), .val (.int v27), .val (.int z28), .val (.ref aB), .val (.int ev)] [(.int (1 : Int32))]
  refine go_if X49 542 706 at_539 rfl (by decide) (by decide) (fun (hh : (1 : Int32) = (0 : Int32)) => absurd hh (by decide : ¬ ((1 : Int32) = (0 : Int32)))) (fun _ => ?_)
  refine go_aload X49 at_542 rfl rfl 544 rfl ?_
  refine go_bipush X49 (16 : Int32) at_544 (by decide) 546 rfl ?_
  refine go_iload X49 at_546 rfl 548 rfl ?_
  refine go_iload X49 at_548 rfl 550 rfl ?_
  refine go_lload X49 at_550 rfl 552 rfl ?_
  refine go_iload X49 at_552 rfl 554 rfl ?_
  refine go_aload X49 at_554 rfl rfl 556 rfl ?_
  refine go_callS X49 0 [(.ref aB), (.int (16 : Int32)), (.int v3), (.int z28), (.long v1), (.int v2), (.ref aP)] [] (wd39 hw) (wd40 hw) (wd23 hw) (wd41 hw) (by decide) (rm5 l Z a0 hw [] h32 n0 aB (16 : Int32) v3 z28 v1 v2 aP A P Un nd 16 _ hA hP hU hA3 hP18 hU63 hnd rfl rfl (by decide) hlen A_b A_p) (by decide) (by decide) rfl (lenOf pd_4 rfl) rfl rfl (Nat.le_of_eq rfl) at_556 (by decide) (by decide) 559 rfl PQ.fr (PQ.k (fun T50 X50 => ?_))
  show Go p e below E m T50 559 #[.val (.long i0), .second, .val (.int i1), .val (.int i2), .val (.int i3), .val (.long v1), .second, .val (.int v2), .val (.int v3), .val (.ref aP), .val (.int v25), .val (.int v27), .val (.int z28), .val (.ref aB), .val (.int ev)] [(.int (1 : Int32))]
  refine go_if X50 562 706 at_559 rfl (by decide) (by decide) (fun (hh : (1 : Int32) = (0 : Int32)) => absurd hh (by decide : ¬ ((1 : Int32) = (0 : Int32)))) (fun _ => ?_)
  refine go_aload X50 at_562 rfl rfl 564 rfl ?_
  refine go_bipush X50 (17 : Int32) at_564 (by decide) 566 rfl ?_
  refine go_iload X50 at_566 rfl 568 rfl ?_
  refine go_iload X50 at_568 rfl 570 rfl ?_
  refine go_lload X50 at_570 rfl 572 rfl ?_
  refine go_iload X50 at_572 rfl 574 rfl ?_
  refine go_aload X50 at_574 rfl rfl 576 rfl ?_
  refine go_callS X50 0 [(.ref aB), (.int (17 : Int32)), (.int v3), (.int z28), (.long v1), (.int v2), (.ref aP)] [] (wd39 hw) (wd40 hw) (wd23 hw) (wd41 hw) (by decide) (rm5 l Z a0 hw [] h32 n0 aB (17 : Int32) v3 z28 v1 v2 aP A P Un nd 17 _ hA hP hU hA3 hP18 hU63 hnd rfl rfl (by decide) hlen A_b A_p) (by decide) (by decide) rfl (lenOf pd_4 rfl) rfl rfl (Nat.le_of_eq rfl) at_576 (by decide) (by decide) 579 rfl PQ.fr (PQ.k (fun T51 X51 => ?_))
  show Go p e below E m T51 579 #[.val (.long i0), .second, .val (.int i1), .val (.int i2), .val (.int i3), .val (.long v1), .second, .val (.int v2), .val (.int v3), .val (.ref aP), .val (.int v25), .val (.int v27), .val (.int z28), .val (.ref aB), .val (.int ev)] [(.int (1 : Int32))]
  refine go_if X51 582 706 at_579 rfl (by decide) (by decide) (fun (hh : (1 : Int32) = (0 : Int32)) => absurd hh (by decide : ¬ ((1 : Int32) = (0 : Int32)))) (fun _ => ?_)
  refine go_aload X51 at_582 rfl rfl 584 rfl ?_
  refine go_bipush X51 (18 : Int32) at_584 (by decide) 586 rfl ?_
  refine go_iload X51 at_586 rfl 588 rfl ?_
  refine go_iload X51 at_588 rfl 590 rfl ?_
  refine go_lload X51 at_590 rfl 592 rfl ?_
  refine go_iload X51 at_592 rfl 594 rfl ?_
  refine go_aload X51 at_594 rfl rfl 596 rfl ?_
  refine go_callS X51 0 [(.ref aB), (.int (18 : Int32)), (.int v3), (.int z28), (.long v1), (.int v2), (.ref aP)] [] (wd39 hw) (wd40 hw) (wd23 hw) (wd41 hw) (by decide) (rm5 l Z a0 hw [] h32 n0 aB (18 : Int32) v3 z28 v1 v2 aP A P Un nd 18 _ hA hP hU hA3 hP18 hU63 hnd rfl rfl (by decide) hlen A_b A_p) (by decide) (by decide) rfl (lenOf pd_4 rfl) rfl rfl (Nat.le_of_eq rfl) at_596 (by decide) (by decide) 599 rfl PQ.fr (PQ.k (fun T52 X52 => ?_))
  show Go p e below E m T52 599 #[.val (.long i0), .second, .val (.int i1), .val (.int i2), .val (.int i3), .val (.long v1), .second, .val (.int v2), .val (.int v3), .val (.ref aP), .val (.int v25), .val (.int v27), .val (.int z28), .val (.ref aB), .val (.int ev)] [(.int (1 : Int32))]
  refine go_if X52 602 706 at_599 rfl (by decide) (by decide) (fun (hh : (1 : Int32) = (0 : Int32)) => absurd hh (by decide : ¬ ((1 : Int32) = (0 : Int32)))) (fun _ => ?_)
  refine go_aload X52 at_602 rfl rfl 604 rfl ?_
  refine go_bipush X52 (19 : Int32) at_604 (by decide) 606 rfl ?_
  refine go_iload X52 at_606 rfl 608 rfl ?_
  refine go_iload X52 at_608 rfl 610 rfl ?_
  refine go_lload X52 at_610 rfl 612 rfl ?_
  refine go_iload X52 at_612 rfl 614 rfl ?_
  refine go_aload X52 at_614 rfl rfl 616 rfl ?_
  refine go_callS X52 0 [(.ref aB), (.int (19 : Int32)), (.int v3), (.int z28), (.long v1), (.int v2), (.ref aP)] [] (wd39 hw) (wd40 hw) (wd23 hw) (wd41 hw) (by decide) (rm5 l Z a0 hw [] h32 n0 aB (19 : Int32) v3 z28 v1 v2 aP A P Un nd 19 _ hA hP hU hA3 hP18 hU63 hnd rfl rfl (by decide) hlen A_b A_p) (by decide) (by decide) rfl (lenOf pd_4 rfl) rfl rfl (Nat.le_of_eq rfl) at_616 (by decide) (by decide) 619 rfl PQ.fr (PQ.k (fun T53 X53 => ?_))
  show Go p e below E m T53 619 #[.val (.long i0), .second, .val (.int i1), .val (.int i2), .val (.int i3), .val (.long v1), .second, .val (.int v2), .val (.int v3), .val (.ref aP), .val (.int v25), .val (.int v27), .val (.int z28), .val (.ref aB), .val (.int ev)] [(.int (1 : Int32))]
  refine go_if X53 622 706 at_619 rfl (by decide) (by decide) (fun (hh : (1 : Int32) = (0 : Int32)) => absurd hh (by decide : ¬ ((1 : Int32) = (0 : Int32)))) (fun _ => ?_)
  refine go_aload X53 at_622 rfl rfl 624 rfl ?_
  refine go_bipush X53 (20 : Int32) at_624 (by decide) 626 rfl ?_
  refine go_iload X53 at_626 rfl 628 rfl ?_
  refine go_iload X53 at_628 rfl 630 rfl ?_
  refine go_lload X53 at_630 rfl 632 rfl ?_
  refine go_iload X53 at_632 rfl 634 rfl ?_
  refine go_aload X53 at_634 rfl rfl 636 rfl ?_
  refine go_callS X53 0 [(.ref aB), (.int (20 : Int32)), (.int v3), (.int z28), (.long v1), (.int v2), (.ref aP)] [] (wd39 hw) (wd40 hw) (wd23 hw) (wd41 hw) (by decide) (rm5 l Z a0 hw [] h32 n0 aB (20 : Int32) v3 z28 v1 v2 aP A P Un nd 20 _ hA hP hU hA3 hP18 hU63 hnd rfl rfl (by decide) hlen A_b A_p) (by decide) (by decide) rfl (lenOf pd_4 rfl) rfl rfl (Nat.le_of_eq rfl) at_636 (by decide) (by decide) 639 rfl PQ.fr (PQ.k (fun T54 X54 => ?_))
  show Go p e below E m T54 639 #[.val (.long i0), .second, .val (.int i1), .val (.int i2), .val (.int i3), .val (.long v1), .second, .val (.int v2), .val (.int v3), .val (.ref aP), .val (.int v25), .val (.int v27), .val (.int z28), .val (.ref aB), .val (.int ev)] [(.int (1 : Int32))]
  refine go_if X54 642 706 at_639 rfl (by decide) (by decide) (fun (hh : (1 : Int32) = (0 : Int32)) => absurd hh (by decide : ¬ ((1 : Int32) = (0 : Int32)))) (fun _ => ?_)
  refine go_aload X54 at_642 rfl rfl 644 rfl ?_
  refine go_bipush X54 (21 : Int32) at_644 (by decide) 646 rfl ?_
  refine go_iload X54 at_646 rfl 648 rfl ?_
  refine go_iload X54 at_648 rfl 650 rfl ?_
  refine go_lload X54 at_650 rfl 652 rfl ?_
  refine go_iload X54 at_652 rfl 654 rfl ?_
  refine go_aload X54 at_654 rfl rfl 656 rfl ?_
  refine go_callS X54 0 [(.ref aB), (.int (21 : Int32)), (.int v3), (.int z28), (.long v1), (.int v2), (.ref aP)] [] (wd39 hw) (wd40 hw) (wd23 hw) (wd41 hw) (by decide) (rm5 l Z a0 hw [] h32 n0 aB (21 : Int32) v3 z28 v1 v2 aP A P Un nd 21 _ hA hP hU hA3 hP18 hU63 hnd rfl rfl (by decide) hlen A_b A_p) (by decide) (by decide) rfl (lenOf pd_4 rfl) rfl rfl (Nat.le_of_eq rfl) at_656 (by decide) (by decide) 659 rfl PQ.fr (PQ.k (fun T55 X55 => ?_))
  show Go p e below E m T55 659 #[.val (.long i0), .second, .val (.int i1), .val (.int i2), .val (.int i3), .val (.long v1), .second, .val (.int v2), .val (.int v3), .val (.ref aP), .val (.int v25), .val (.int v27), .val (.int z28), .val (.ref aB), .val (.int ev)] [(.int (1 : Int32))]
  refine go_if X55 662 706 at_659 rfl (by decide) (by decide) (fun (hh : (1 : Int32) = (0 : Int32)) => absurd hh (by decide : ¬ ((1 : Int32) = (0 : Int32)))) (fun _ => ?_)
  refine go_aload X55 at_662 rfl rfl 664 rfl ?_
  refine go_bipush X55 (22 : Int32) at_664 (by decide) 666 rfl ?_
  refine go_iload X55 at_666 rfl 668 rfl ?_
  refine go_iload X55 at_668 rfl 670 rfl ?_
  refine go_lload X55 at_670 rfl 672 rfl ?_
  refine go_iload X55 at_672 rfl 674 rfl ?_
  refine go_aload X55 at_674 rfl rfl 676 rfl ?_
  refine go_callS X55 0 [(.ref aB), (.int (22 : Int32)), (.int v3), (.int z28), (.long v1), (.int v2), (.ref aP)] [] (wd39 hw) (wd40 hw) (wd23 hw) (wd41 hw) (by decide) (rm5 l Z a0 hw [] h32 n0 aB (22 : Int32) v3 z28 v1 v2 aP A P Un nd 22 _ hA hP hU hA3 hP18 hU63 hnd rfl rfl (by decide) hlen A_b A_p) (by decide) (by decide) rfl (lenOf pd_4 rfl) rfl rfl (Nat.le_of_eq rfl) at_676 (by decide) (by decide) 679 rfl PQ.fr (PQ.k (fun T56 X56 => ?_))
  show Go p e below E m T56 679 #[.val (.long i0), .second, .val (.int i1), .val (.int i2), .val (.int i3), .val (.long v1), .second, .val (.int v2), .val (.int v3), .val (.ref aP), .val (.int v25), .val (.int v27), .val (.int z28), .val (.ref aB), .val (.int ev)] [(.int (1 : Int32))]
  refine go_if X56 682 706 at_679 rfl (by decide) (by decide) (fun (hh : (1 : Int32) = (0 : Int32)) => absurd hh (by decide : ¬ ((1 : Int32) = (0 : Int32)))) (fun _ => ?_)
  refine go_aload X56 at_682 rfl rfl 684 rfl ?_
  refine go_bipush X56 (23 : Int32) at_684 (by decide) 686 rfl ?_
  refine go_iload X56 at_686 rfl 688 rfl ?_
  refine go_iload X56 at_688 rfl 690 rfl ?_
  refine go_lload X56 at_690 rfl 692 rfl ?_
  refine go_iload X56 at_692 rfl 694 rfl ?_
  refine go_aload X56 at_694 rfl rfl 696 rfl ?_
  refine go_callS X56 0 [(.ref aB), (.int (23 : Int32)), (.int v3), (.int z28), (.long v1), (.int v2), (.ref aP)] [] (wd39 hw) (wd40 hw) (wd23 hw) (wd41 hw) (by decide) (rm5 l Z a0 hw [] h32 n0 aB (23 : Int32) v3 z28 v1 v2 aP A P Un nd 23 _ hA hP hU hA3 hP18 hU63 hnd rfl rfl (by decide) hlen A_b A_p) (by decide) (by decide) rfl (lenOf pd_4 rfl) rfl rfl (Nat.le_of_eq rfl) at_696 (by decide) (by decide) 699 rfl PQ.fr (PQ.k (fun T57 X57 => ?_))
  show Go p e below E m T57 699 #[.val (.long i0), .second, .val (.int i1), .val (.int i2), .val (.int i3), .val (.long v1), .second, .val (.int v2), .val (.int v3), .val (.ref aP), .val (.int v25), .val (.int v27), .val (.int z28), .val (.ref aB), .val (.int ev)] [(.int (1 : Int32))]
  refine go_if X57 702 706 at_699 rfl (by decide) (by decide) (fun (hh : (1 : Int32) = (0 : Int32)) => absurd hh (by decide : ¬ ((1 : Int32) = (0 : Int32)))) (fun _ => ?_)
  refine go_iconst X57 (1 : Int32) at_702 (by decide) 703 rfl ?_
  refine go_goto X57 707 at_703 (by decide) (by decide) ?_
  exact go_retN X57 hE (by simp) at_707 (fun L N => ⟨rfl, N⟩) (by decide) (by decide)
set_option maxRecDepth 65536 in
set_option maxHeartbeats 40000000 in
theorem comes_1 {Post : Tables → Env → Array Value → State → Outcome → State → Prop} (hpost : ∀ tb e args s v u, (limb_1_1.after args s (.returned v) u = true ∧ limb_1_2.after args s (.returned v) u = true ∧ True) → FrameEnd s (.returned v) u (Jvm.fieldLocs frame_1_writes args s ++ Jvm.arrayLocs frame_1_arrays args s ++ Jvm.staticLocs frame_1_statics s) 16 192 → Post tb e args s (.returned v) u) :
    ArmFor flags0 classFile x code maxLocals ret World_1 tables_1 room_1 Calls_1 rest_1 Pre_1 Post := by
  intro l hfl _ _ p e ha hc hk s m args below hf hA hF happ hP
  obtain ⟨hcalls, hrest, hpre⟩ := hP
  obtain ⟨-, -, -, hnamed, -, -, -, hat⟩ := (Spec.applies_iff hf).mp happ
  obtain ⟨hg, hn⟩ := and_e (Cond.before_iff.mp (show (Jvm.Cond.and given_1 narrow_1).before args s = true from hpre))
  obtain ⟨hcnt, hg⟩ := and_e hg
  obtain ⟨g0, hg⟩ := and_e hg
  obtain ⟨g1, hg⟩ := and_e hg
  obtain ⟨g2, hg⟩ := and_e hg
  have g3 := hg
  obtain ⟨w0, w1, w2, w3, rfl⟩ : ∃ w0 w1 w2 w3 : Value, args = #[w0, w1, w2, w3] := by
    have hs : args.size = 4 := by simpa [Cond.value, given_1] using hcnt
    obtain ⟨L⟩ := args
    match L, hs with
    | [w0, w1, w2, w3], _ => exact ⟨w0, w1, w2, w3, rfl⟩
  have hw := fun d (hd : d ∈ tables_1) => atoms_spec (ws := Jvm.Cond.code x code maxLocals ret :: tables_1) hat d (List.mem_cons_of_mem _ hd)
  obtain ⟨i0, ei0⟩ := isL_v g0
  obtain rfl : w0 = (.long i0) := Option.some.inj ei0
  obtain ⟨i1, ei1⟩ := is_v g1
  obtain rfl : w1 = (.int i1) := Option.some.inj ei1
  obtain ⟨i2, ei2⟩ := is_v g2
  obtain rfl : w2 = (.int i2) := Option.some.inj ei2
  obtain ⟨i3, ei3⟩ := is_v g3
  obtain rfl : w3 = (.int i3) := Option.some.inj ei3
  obtain ⟨n, o, h1, h2, h3, _, L, rfl, ⟨rfl, N⟩, hq⟩ := rm0 l s _ hw tables_1 s.heap s.heap.size (Nat.le_refl _) i0 i1 i2 i3  p e ha hc hk s m _ below hf ((Spec.applies_iff_loose hf).mp happ).1 ⟨rfl, State.Warmed39.refl s, rfl⟩ trivial
  refine ⟨n, _, h1, h2, h3, hpost _ _ _ _ _ _ ⟨Cond.after_iff.mpr rfl, Cond.after_iff.mpr (eq_i res_at (Term.int_eval (1)) rfl), trivial⟩ ⟨hq.1, hq.2.1, (hq.2.2.sift fun y hy => Or.inr (N y hy)).mono (by decide) (by decide)⟩⟩
theorem main_1_1 : Claimed_1_1 := comes_1 fun _ _ _ _ _ _ h hF => ⟨h.1, hF⟩
theorem main_1_2 : Claimed_1_2 := comes_1 fun _ _ _ _ _ _ h hF => ⟨h.2.1, hF⟩
end Jvm.Pilot.@@N@@
namespace Jvm.Pilot.@@N@@
open Jvm Jvm.ClassFile Sem Op Lib Jvm.Free Jvm.Stand Jvm.Pilot.@@N@@.Jvm.D
/-! MADE BY PROGRAM (witnessworld.py) out of the Statement's table words and the real class files: 12 classes; the members and pool entries that the words name. The judged class is class 1, her method 1. -/
namespace start1
open Jvm.ClassFile
def u (s : String) : CpInfo := .utf8 (stringToUtf16 s)
/-- a pool by its gaps: so many unusable entries, then the entry; so many at the end -/
def gap : Nat → List CpInfo → List CpInfo
  | 0, r => r
  | n + 1, r => .unusable :: gap n r
def poolList (es : List (Nat × CpInfo)) (last : Nat) : List CpInfo := es.foldr (fun e r => gap e.1 (e.2 :: r)) (gap last [])
def pool (es : List (Nat × CpInfo)) (last : Nat) : Array CpInfo := ⟨poolList es last⟩
def fileOf (pool : Array CpInfo) (this : Nat) (attrs : Array Attribute := #[]) (ms : Array MethodInfo := #[]) (fl : Nat := 33) (sup : Nat := 0) (ifs : Array Nat := #[]) (fds : Array FieldInfo := #[]) : ClassFile where
  minorVersion := 0
  majorVersion := 65
  constantPool := pool
  accessFlags := fl
  thisClass := this
  superClass := sup
  interfaces := ifs
  fields := fds
  methods := ms
  attributes := attrs
def plain (name : String) (sup : Option ClassId) : Class where
  name := name
  kind := .ordinary
  loader := none
  accessFlags := 33
  super := sup
  interfaces := #[]
  cf := none
  fields := #[]
  methods := #[]
  instanceTypes := #[]
  staticTypes := #[]
  resolved := #[]
  callSites := []
  init := .initialized
  statics := none
  mirror := none

def pool0 : Array CpInfo := pool [(5, u "<init>"), (0, u "()V"), (1, .class_ 10), (1, u "java/lang/Object")] 113

def k0m0 : Method := { name := "<init>", desc := "()V", sig := { parameters := [], returnType := none }, accessFlags := 1, code := none }
/-- java/lang/Object -/
def k0 : Class := { plain "java/lang/Object" none with
  accessFlags := 33
  interfaces := #[]
  cf := some (fileOf pool0 8 #[] #[{ accessFlags := 1, nameIndex := 5, descriptorIndex := 6, attributes := #[] }] 33 0 #[] #[])
  fields := #[]
  methods := #[k0m0]
  instanceTypes := #[]
  staticTypes := #[]
  resolved := Array.replicate 124 none
  statics := none }

def pool1 : Array CpInfo := pool [(2, .class_ 4), (1, u "java/lang/Object"), (0, u "<init>"), (0, u "()V"), (2, .long 9223372036854775807), (1, .integer 2147483647), (0, .long 10), (1, .long 100), (1, .long 1000), (1, .long 10000), (1, .long 100000), (1, .long 1000000), (1, .long 10000000), (1, .long 100000000), (1, .long 1000000000), (1, .long 10000000000), (1, .long 100000000000), (1, .long 1000000000000), (1, .long 10000000000000), (1, .long 100000000000000), (1, .long 1000000000000000), (1, .long 10000000000000000), (1, .long 100000000000000000), (1, .long 1000000000000000000), (1, .methodref 49 50), (0, .class_ 51), (0, .nameAndType 52 53), (0, u "com/example/voxweight/voxweight/io/DecimalsWriteDigitsPinLaw"), (0, u "digits"), (0, u "(J[J)I"), (0, .methodref 55 56), (0, .class_ 57), (0, .nameAndType 58 59), (0, u "java/lang/Math"), (0, u "max"), (0, u "(II)I"), (0, .methodref 61 62), (0, .class_ 63), (0, .nameAndType 64 65), (0, u "com/example/voxweight/voxweight/io/Decimals"), (0, u "writeDigits"), (0, u "([BIJI)I"), (0, .methodref 49 67), (0, .nameAndType 68 69), (0, u "ok"), (0, u "([BIIIJI[J)Z"), (0, .methodref 49 71), (0, .nameAndType 72 73), (0, u "ge"), (0, u "(J[JI)I"), (0, .long 48), (3, u "law"), (0, u "(JIII)Z")] 7

def k1m0 : Method := { name := "<init>", desc := "()V", sig := { parameters := [], returnType := none }, accessFlags := 1, code := none }
def k1c1 : Code := { maxStack := 8, maxLocals := 15, code := code, exceptionTable := #[], attributes := #[] }
def k1m1 : Method := { name := "law", desc := "(JIII)Z", sig := { parameters := [.long, .int, .int, .int], returnType := some .boolean }, accessFlags := 9, code := some k1c1 }
def k1c2 : Code := { maxStack := 4, maxLocals := 4, code := method_3_code, exceptionTable := #[], attributes := #[] }
def k1m2 : Method := { name := "ge", desc := "(J[JI)I", sig := { parameters := [.long, (.array .long), .int], returnType := some .int }, accessFlags := 10, code := some k1c2 }
def k1c3 : Code := { maxStack := 5, maxLocals := 3, code := method_4_code, exceptionTable := #[], attributes := #[] }
def k1m3 : Method := { name := "digits", desc := "(J[J)I", sig := { parameters := [.long, (.array .long)], returnType := some .int }, accessFlags := 10, code := some k1c3 }
def k1c4 : Code := { maxStack := 5, maxLocals := 13, code := method_5_code, exceptionTable := #[], attributes := #[] }
def k1m4 : Method := { name := "ok", desc := "([BIIIJI[J)Z", sig := { parameters := [(.array .byte), .int, .int, .int, .long, .int, (.array .long)], returnType := some .boolean }, accessFlags := 10, code := some k1c4 }
/-- com/example/voxweight/voxweight/io/DecimalsWriteDigitsPinLaw -/
def k1 : Class := { plain "com/example/voxweight/voxweight/io/DecimalsWriteDigitsPinLaw" (some 0) with
  accessFlags := 49
  interfaces := #[]
  cf := some (fileOf pool1 49 #[] #[{ accessFlags := 1, nameIndex := 5, descriptorIndex := 6, attributes := #[] }, { accessFlags := 9, nameIndex := 78, descriptorIndex := 79, attributes := #[] }, { accessFlags := 10, nameIndex := 72, descriptorIndex := 73, attributes := #[] }, { accessFlags := 10, nameIndex := 52, descriptorIndex := 53, attributes := #[] }, { accessFlags := 10, nameIndex := 68, descriptorIndex := 69, attributes := #[] }] 49 2 #[] #[])
  fields := #[]
  methods := #[k1m0, k1m1, k1m2, k1m3, k1m4]
  instanceTypes := #[]
  staticTypes := #[]
  resolved := Array.replicate 87 none
  statics := none }

def pool2 : Array CpInfo := pool [(1, .class_ 2), (0, u "java/lang/Math"), (1, .class_ 6), (1, u "java/lang/Object"), (0, u "<init>"), (0, u "()V"), (89, .class_ 100), (1, u "java/lang/Math$RandomNumberGeneratorHolder"), (71, u "negativeZeroFloatBits"), (0, u "J"), (2, u "negativeZeroDoubleBits"), (21, u "max"), (46, u "$assertionsDisabled"), (0, u "Z"), (88, u "(II)I"), (2, u "twoToTheDoubleScaleDown"), (0, u "D"), (4, u "twoToTheDoubleScaleUp"), (9, u "E"), (3, u "PI"), (2, u "TAU"), (2, u "DEGREES_TO_RADIANS"), (0, u "RADIANS_TO_DEGREES")] 94

def k2m0 : Method := { name := "<init>", desc := "()V", sig := { parameters := [], returnType := none }, accessFlags := 2, code := none }
def k2c1 : Code := { maxStack := 2, maxLocals := 2, code := jdk_29_method_65_code, exceptionTable := #[], attributes := #[] }
def k2m1 : Method := { name := "max", desc := "(II)I", sig := { parameters := [.int, .int], returnType := some .int }, accessFlags := 9, code := some k2c1 }
/-- java/lang/Math -/
def k2 : Class := { plain "java/lang/Math" (some 0) with
  accessFlags := 49
  interfaces := #[]
  cf := some (fileOf pool2 1 #[.nestMembers #[98]] #[{ accessFlags := 2, nameIndex := 7, descriptorIndex := 8, attributes := #[] }, { accessFlags := 9, nameIndex := 198, descriptorIndex := 335, attributes := #[] }] 49 4 #[] #[{ accessFlags := 25, nameIndex := 354, descriptorIndex := 339, attributes := #[] }, { accessFlags := 25, nameIndex := 358, descriptorIndex := 339, attributes := #[] }, { accessFlags := 25, nameIndex := 361, descriptorIndex := 339, attributes := #[] }, { accessFlags := 26, nameIndex := 364, descriptorIndex := 339, attributes := #[] }, { accessFlags := 26, nameIndex := 365, descriptorIndex := 339, attributes := #[] }, { accessFlags := 26, nameIndex := 172, descriptorIndex := 173, attributes := #[] }, { accessFlags := 26, nameIndex := 176, descriptorIndex := 173, attributes := #[] }, { accessFlags := 8, nameIndex := 344, descriptorIndex := 339, attributes := #[] }, { accessFlags := 8, nameIndex := 338, descriptorIndex := 339, attributes := #[] }, { accessFlags := 4120, nameIndex := 245, descriptorIndex := 246, attributes := #[] }])
  fields := #[{ name := "E", type := .double, accessFlags := 25, slot := 0, constantValue := 0 }, { name := "PI", type := .double, accessFlags := 25, slot := 1, constantValue := 0 }, { name := "TAU", type := .double, accessFlags := 25, slot := 2, constantValue := 0 }, { name := "DEGREES_TO_RADIANS", type := .double, accessFlags := 26, slot := 3, constantValue := 0 }, { name := "RADIANS_TO_DEGREES", type := .double, accessFlags := 26, slot := 4, constantValue := 0 }, { name := "negativeZeroFloatBits", type := .long, accessFlags := 26, slot := 5, constantValue := 0 }, { name := "negativeZeroDoubleBits", type := .long, accessFlags := 26, slot := 6, constantValue := 0 }, { name := "twoToTheDoubleScaleUp", type := .double, accessFlags := 8, slot := 7, constantValue := 0 }, { name := "twoToTheDoubleScaleDown", type := .double, accessFlags := 8, slot := 8, constantValue := 0 }, { name := "$assertionsDisabled", type := .boolean, accessFlags := 4120, slot := 9, constantValue := 0 }]
  methods := #[k2m0, k2m1]
  instanceTypes := #[]
  staticTypes := #[.double, .double, .double, .double, .double, .long, .long, .double, .double, .boolean]
  resolved := Array.replicate 460 none
  statics := none }

def pool3 : Array CpInfo := pool [(2, .class_ 4), (1, u "java/lang/Object"), (0, u "<init>"), (0, u "()V"), (1, .class_ 10), (1, u "com/example/voxweight/voxweight/io/Decimals"), (92, .long 10), (7, u "writeDigits"), (0, u "([BIJI)I"), (29, .long 48), (9, u "FRACTION_BITS"), (0, u "I"), (2, u "EXPONENT_BIAS"), (1, u "MOST_PLACES"), (1, u "MOST_WRITTEN")] 15

def k3m0 : Method := { name := "<init>", desc := "()V", sig := { parameters := [], returnType := none }, accessFlags := 2, code := none }
def k3c1 : Code := { maxStack := 8, maxLocals := 12, code := prog_57_method_11_code, exceptionTable := #[], attributes := #[] }
def k3m1 : Method := { name := "writeDigits", desc := "([BIJI)I", sig := { parameters := [(.array .byte), .int, .long, .int], returnType := some .int }, accessFlags := 8, code := some k3c1 }
/-- com/example/voxweight/voxweight/io/Decimals -/
def k3 : Class := { plain "com/example/voxweight/voxweight/io/Decimals" (some 0) with
  accessFlags := 33
  interfaces := #[]
  cf := some (fileOf pool3 8 #[] #[{ accessFlags := 2, nameIndex := 5, descriptorIndex := 6, attributes := #[] }, { accessFlags := 8, nameIndex := 111, descriptorIndex := 112, attributes := #[] }] 33 2 #[] #[{ accessFlags := 26, nameIndex := 152, descriptorIndex := 153, attributes := #[] }, { accessFlags := 26, nameIndex := 156, descriptorIndex := 153, attributes := #[] }, { accessFlags := 26, nameIndex := 158, descriptorIndex := 153, attributes := #[] }, { accessFlags := 24, nameIndex := 160, descriptorIndex := 153, attributes := #[] }])
  fields := #[{ name := "FRACTION_BITS", type := .int, accessFlags := 26, slot := 0, constantValue := 0 }, { name := "EXPONENT_BIAS", type := .int, accessFlags := 26, slot := 1, constantValue := 0 }, { name := "MOST_PLACES", type := .int, accessFlags := 26, slot := 2, constantValue := 0 }, { name := "MOST_WRITTEN", type := .int, accessFlags := 24, slot := 3, constantValue := 0 }]
  methods := #[k3m0, k3m1]
  instanceTypes := #[]
  staticTypes := #[.int, .int, .int, .int]
  resolved := Array.replicate 176 none
  statics := none }

def pool4 : Array CpInfo := pool [(1, u "java/lang/Cloneable"), (0, .class_ 1), (0, u "java/lang/Object"), (0, .class_ 3)] 3

/-- java/lang/Cloneable -/
def k4 : Class := { plain "java/lang/Cloneable" (some 0) with
  accessFlags := 1537
  interfaces := #[]
  cf := some (fileOf pool4 2 #[] #[] 1537 4 #[] #[])
  fields := #[]
  methods := #[]
  instanceTypes := #[]
  staticTypes := #[]
  resolved := Array.replicate 8 none
  statics := none }

def pool5 : Array CpInfo := pool [(1, u "java/io/Serializable"), (0, .class_ 1), (0, u "java/lang/Object"), (0, .class_ 3)] 3

/-- java/io/Serializable -/
def k5 : Class := { plain "java/io/Serializable" (some 0) with
  accessFlags := 1537
  interfaces := #[]
  cf := some (fileOf pool5 2 #[] #[] 1537 4 #[] #[])
  fields := #[]
  methods := #[]
  instanceTypes := #[]
  staticTypes := #[]
  resolved := Array.replicate 8 none
  statics := none }

/-- the primitive byte -/
def k6 : Class := { plain "byte" none with kind := .primitive 'B', accessFlags := 0x411 }
/-- [B -/
def k7 : Class := { plain "[B" (some 0) with kind := .array 6 .byte, interfaces := #[4, 5], accessFlags := 1041 }

/-- the primitive int -/
def k8 : Class := { plain "int" none with kind := .primitive 'I', accessFlags := 0x411 }
/-- [I -/
def k9 : Class := { plain "[I" (some 0) with kind := .array 8 .int, interfaces := #[4, 5], accessFlags := 1041 }

/-- the primitive long -/
def k10 : Class := { plain "long" none with kind := .primitive 'J', accessFlags := 0x411 }
/-- [J -/
def k11 : Class := { plain "[J" (some 0) with kind := .array 10 .long, interfaces := #[4, 5], accessFlags := 1041 }

def heap : Heap := #[]
def classes : Array Class := #[k0, k1, k2, k3, k4, k5, k6, k7, k8, k9, k10, k11]
def interned : List (Array UInt16 × Addr) := []
def slotsUsed : Nat := 0
def theMethod : MethodId := ⟨1, 1⟩
def args0 : Array Value := #[.long 5, .int 2, .int 1, .int 7]
def aboutOver (below : List Frame) : State where
  vm := { classes := classes, interned := interned.toArray }
  heap := heap
  slotsUsed := slotsUsed
  threads := #[{ frames := .invoking theMethod args0 :: below }]
def below0 : List Frame := [.native { method := ⟨0, 0⟩, args := #[] }]
def about1 : State := aboutOver below0
def p0 : Program := .bare "" "" ""
def e0 : Env := launch0.env 0 0 0
theorem w_frames : about1.frames = Frame.invoking theMethod args0 :: below0 := rfl
set_option maxRecDepth 65536 in
theorem w_args : argsFit about1.vm theMethod args0 = true := by decide +kernel
set_option maxRecDepth 65536 in
theorem w_heap : heapFits about1 = true := by decide +kernel
set_option maxRecDepth 65536 in
theorem w_runnable : about1.curStatus? = some .runnable := by decide +kernel
set_option maxRecDepth 65536 in
theorem w_alone : about1.alone = true := by decide +kernel
set_option maxRecDepth 65536 in
theorem w_named : about1.methodNamed? x = some theMethod := by decide +kernel
set_option maxRecDepth 65536 in
theorem w_hears : about1.hears theMethod below0 = true := by decide +kernel
set_option maxRecDepth 65536 in
theorem w_ripe : about1.ripe theMethod args0 below0 = true := by decide +kernel
theorem w_running : about1.status = .running := rfl
set_option maxRecDepth 65536 in
theorem w_room : about1.hasRoom e0.platform room_1 = true :=
  launch0.hasRoom_least _ room_1 (by decide +kernel) (by decide +kernel) (by decide +kernel) (by decide +kernel) (by decide +kernel) (by decide +kernel)
theorem allAtoms_all (ts : List Jvm.Cond) (a : Array Jvm.Value) (st : Jvm.State) : (allAtoms ts).before a st = ts.all (fun c => c.before a st) := by
  induction ts with
  | nil => rfl
  | cons c t ih =>
    show (Jvm.Cond.and c (allAtoms t)).before a st = _
    rw [Jvm.Cond.before_and, ih, List.all_cons]
def words1 : List Jvm.Cond := Jvm.Cond.code x code maxLocals ret :: tables_1
/-- a 'code' word, met by the world's own term for the bytes: nothing is compared byte by byte -/
theorem code_word {y : MethodName} {bytes : ByteArray} {mx : Nat} {rt : Option FieldType} {a : Array Value} {s : State} {m : MethodId} {meth : Method} {c : Code} (h1 : s.methodNamed? y = some m) (h2 : s.vm.method? m = some meth) (h3 : meth.code = some c) (h4 : c.code = bytes)
    (h5 : (c.maxLocals == mx && c.exceptionTable.isEmpty && decide (c.maxStack ≤ mostOperands) && decide (meth.sig.returnType = rt) && !meth.locks && decide (parseMethodDescriptor y.desc = some meth.sig)) = true) : (Jvm.Cond.code y bytes mx rt).before a s = true := by
  simp only [Bool.and_eq_true, beq_iff_eq, Bool.not_eq_true', decide_eq_true_eq] at h5
  obtain ⟨⟨⟨⟨⟨g1, g2⟩, g3⟩, g4⟩, g5⟩, g6⟩ := h5
  simp [Cond.before, Cond.holds, Cond.value, h1, h2, h3, h4, g1, g2, g3, g4, g5, g6]
def isCode : Jvm.Cond → Bool
  | .code _ _ _ _ => true
  | _ => false
theorem all_split {L : List Jvm.Cond} {P : Jvm.Cond → Bool} (h1 : L.all (fun c => isCode c || P c) = true) (h2 : ∀ c ∈ L.filter isCode, P c = true) : L.all P = true := by
  refine List.all_eq_true.mpr fun c hc => ?_
  have h := List.all_eq_true.mp h1 c hc
  rcases Bool.eq_false_or_eq_true (isCode c) with hi | hi
  · exact h2 c (List.mem_filter.mpr ⟨hc, hi⟩)
  · simpa [hi] using h
set_option maxRecDepth 65536 in
theorem w_c0 : (Jvm.Cond.code x code maxLocals ret).before args0 about1 = true := code_word (m := ⟨1, 1⟩) (meth := k1m1) (c := k1c1) (by decide +kernel) rfl rfl rfl (by decide +kernel)
set_option maxRecDepth 65536 in
theorem w_c1 : (Jvm.Cond.code ({ cls := "com/example/voxweight/voxweight/io/DecimalsWriteDigitsPinLaw", name := "digits", desc := "(J[J)I" } : Jvm.MethodName) method_4_code (3 : Nat) (Option.some Jvm.ClassFile.FieldType.int)).before args0 about1 = true := code_word (m := ⟨1, 3⟩) (meth := k1m3) (c := k1c3) (by decide +kernel) rfl rfl rfl (by decide +kernel)
set_option maxRecDepth 65536 in
theorem w_c2 : (Jvm.Cond.code ({ cls := "com/example/voxweight/voxweight/io/DecimalsWriteDigitsPinLaw", name := "ge", desc := "(J[JI)I" } : Jvm.MethodName) method_3_code (4 : Nat) (Option.some Jvm.ClassFile.FieldType.int)).before args0 about1 = true := code_word (m := ⟨1, 2⟩) (meth := k1m2) (c := k1c2) (by decide +kernel) rfl rfl rfl (by decide +kernel)
set_option maxRecDepth 65536 in
theorem w_c3 : (Jvm.Cond.code ({ cls := "java/lang/Math", name := "max", desc := "(II)I" } : Jvm.MethodName) jdk_29_method_65_code (2 : Nat) (Option.some Jvm.ClassFile.FieldType.int)).before args0 about1 = true := code_word (m := ⟨2, 1⟩) (meth := k2m1) (c := k2c1) (by decide +kernel) rfl rfl rfl (by decide +kernel)
set_option maxRecDepth 65536 in
theorem w_c4 : (Jvm.Cond.code ({ cls := "com/example/voxweight/voxweight/io/Decimals", name := "writeDigits", desc := "([BIJI)I" } : Jvm.MethodName) prog_57_method_11_code (12 : Nat) (Option.some Jvm.ClassFile.FieldType.int)).before args0 about1 = true := code_word (m := ⟨3, 1⟩) (meth := k3m1) (c := k3c1) (by decide +kernel) rfl rfl rfl (by decide +kernel)
set_option maxRecDepth 65536 in
theorem w_c5 : (Jvm.Cond.code ({ cls := "com/example/voxweight/voxweight/io/DecimalsWriteDigitsPinLaw", name := "ok", desc := "([BIIIJI[J)Z" } : Jvm.MethodName) method_5_code (13 : Nat) (Option.some Jvm.ClassFile.FieldType.boolean)).before args0 about1 = true := code_word (m := ⟨1, 4⟩) (meth := k1m4) (c := k1c4) (by decide +kernel) rfl rfl rfl (by decide +kernel)
def codes1 : List Jvm.Cond := [Jvm.Cond.code x code maxLocals ret, Jvm.Cond.code ({ cls := "com/example/voxweight/voxweight/io/DecimalsWriteDigitsPinLaw", name := "digits", desc := "(J[J)I" } : Jvm.MethodName) method_4_code (3 : Nat) (Option.some Jvm.ClassFile.FieldType.int), Jvm.Cond.code ({ cls := "com/example/voxweight/voxweight/io/DecimalsWriteDigitsPinLaw", name := "ge", desc := "(J[JI)I" } : Jvm.MethodName) method_3_code (4 : Nat) (Option.some Jvm.ClassFile.FieldType.int), Jvm.Cond.code ({ cls := "java/lang/Math", name := "max", desc := "(II)I" } : Jvm.MethodName) jdk_29_method_65_code (2 : Nat) (Option.some Jvm.ClassFile.FieldType.int), Jvm.Cond.code ({ cls := "com/example/voxweight/voxweight/io/Decimals", name := "writeDigits", desc := "([BIJI)I" } : Jvm.MethodName) prog_57_method_11_code (12 : Nat) (Option.some Jvm.ClassFile.FieldType.int), Jvm.Cond.code ({ cls := "com/example/voxweight/voxweight/io/DecimalsWriteDigitsPinLaw", name := "ok", desc := "([BIIIJI[J)Z" } : Jvm.MethodName) method_5_code (13 : Nat) (Option.some Jvm.ClassFile.FieldType.boolean)]
set_option maxRecDepth 65536 in
theorem codes_eq : words1.filter isCode = codes1 := rfl
theorem w_codes : ∀ c ∈ words1.filter isCode, c.before args0 about1 = true := by
  rw [codes_eq]
  intro c hc
  simp only [codes1, List.mem_cons, List.not_mem_nil, or_false] at hc
  rcases hc with rfl | rfl | rfl | rfl | rfl | rfl
  · exact w_c0
  · exact w_c1
  · exact w_c2
  · exact w_c3
  · exact w_c4
  · exact w_c5
set_option maxRecDepth 65536 in
theorem w_t1 : (words1.take 24).all (fun c => isCode c || c.before args0 about1) = true := by decide +kernel
set_option maxRecDepth 65536 in
theorem w_t2 : (words1.drop 24).all (fun c => isCode c || c.before args0 about1) = true := by decide +kernel
theorem w_tables : (allAtoms (Jvm.Cond.code x code maxLocals ret :: tables_1)).before args0 about1 = true := by
  rw [allAtoms_all]
  show words1.all (fun c => c.before args0 about1) = true
  refine all_split ?_ w_codes
  rw [← List.take_append_drop 24 words1, List.all_append, w_t1, w_t2]
  rfl
set_option maxRecDepth 65536 in
theorem w_case : (Jvm.Cond.and given_1 narrow_1).before args0 about1 = true := by decide +kernel
theorem w_applies : (headSpec (Jvm.Cond.code x code maxLocals ret :: tables_1) room_1).applies x e0.platform about1 = true :=
  (Spec.applies_iff w_frames).mpr ⟨w_running, w_runnable, w_alone, w_named, w_hears, w_ripe, w_room, w_tables⟩
theorem atStart : AtStart classFile x code maxLocals ret World_1 tables_1 room_1 Calls_1 rest_1 Pre_1 launch0 p0 e0 about1 theMethod args0 below0 :=
  ⟨lists_1, trivial, launch0.admits_env _ _ _, launch0.least_env, fairChoices_fair.cas, fairChoices_fair.clock, w_frames, w_args, w_heap, w_applies, trivial, trivial, w_case⟩
end start1
theorem witness_1 : WitnessClaimed_1 := ⟨start1.p0, start1.e0, start1.about1, start1.theMethod, start1.args0, start1.below0, start1.atStart⟩
end Jvm.Pilot.@@N@@
