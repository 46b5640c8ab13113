import JvmDerived
import JvmDerived.Pilot.@@N@@Statement
import JvmDerived.Pilot.@@N@@Code
set_option linter.unusedVariables false
set_option linter.unusedSimpArgs false
namespace Jvm.Pilot.@@N@@
open Jvm Jvm.ClassFile Sem Op Lib Jvm.Free Jvm.Stand Jvm.LawKit Jvm.RoadKit Bundle Jvm.Pilot.@@N@@.Jvm.D
section OwnGo
variable {p : Program} {l : Launch} {e : Env} {R : Room} {s : State} {m : MethodId} {args : Array Value} {below : List Frame} {meth : Method} {c : Code} {Z : State} {n0 kc ks : Nat} {Q : Option Value → Heap → Prop} {y : MethodName} {bytes : ByteArray} {maxL : Nat} {ret : Option FieldType} {h h' : Heap} {cs sl : Nat} {pc pc' : Nat} {Ls Ls' : Array Slot} {st : List Value} {a0 : Array Value}
def Ctx (p : Program) (s : State) (m : MethodId) (meth : Method) (c : Code) (Z : State) (y : MethodName) (bytes : ByteArray) (maxL : Nat) (ret : Option FieldType) : Prop :=
  p.tables.exec = Jvm.exec ∧ c.code = bytes ∧ c.maxLocals = maxL ∧ meth.sig.returnType = ret ∧ meth.locks = false ∧ Z.Warmed39 s.vm ∧ s.vm.findClass y.cls = some m.cls ∧ meth.name = y.name
theorem zw (C : Ctx p s m meth c Z y bytes maxL ret) {vm0 : Vm} {k0 : Nat} (hS : s.Since vm0 k0) : Z.Warmed39 (s.setVm vm0).vm := State.Warmed39.trans C.2.2.2.2.2.1 hS.1
theorem ow (C : Ctx p s m meth c Z y bytes maxL ret) {vm0 : Vm} {k0 : Nat} (hS : s.Since vm0 k0) : (s.setVm vm0).vm.findClass y.cls = some m.cls := (hS.1.alike.findClass _ _).trans C.2.2.2.2.2.2.1
def Go (p : Program) (l : Launch) (e : Env) (R : Room) (s : State) (m : MethodId) (args : Array Value) (below : List Frame) (meth : Method) (c : Code) (Z : State) (n0 : Nat) (Q : Option Value → Heap → Prop) (kc ks : Nat) (h : Heap) (cs sl : Nat) (g : JFrame) : Prop :=
  ∀ (T : State) (L : List Loc) (vm0 : Vm) (k0 : Nat), s.Since vm0 k0 → k0 ≤ h.size → Fr n0 L → Old Z n0 h → Stand p l e R (s.setVm vm0) m args below meth c T L cs sl → T.heap = h →
    ∃ (U : State) (v : Option Value) (L' : List Loc), Steps p.tables e below (T.setTop g) U ∧ U.status = .running ∧ Ended U below (.returned v) ∧ Fr n0 L' ∧ Old Z n0 U.heap ∧ s.Since U.vm U.heap.size ∧ s.sameButNew ({ U with vm := s.vm } : State) L' kc ks ∧ Q v U.heap
def Met (l : Launch) (Z : State) (n0 : Nat) (y : MethodName) (bytes : ByteArray) (maxL : Nat) (ret : Option FieldType) (ws : List Jvm.Cond) (rm : Room) (as : Array Value) (h : Heap) (Q : Option Value → Heap → Prop) : Prop :=
  MetFree l y (head1 (Jvm.Cond.code y bytes maxL ret :: ws) rm) (fun a U => a = as ∧ Z.Warmed39 U.vm ∧ U.heap = h) (fun _ _ _ _ _ => True) (fun _ U o U' => ∃ v L, o = .returned v ∧ (Fr n0 L ∧ Old Z n0 U'.heap ∧ Q v U'.heap) ∧ ReturnedEndW U o U' L rm.cells rm.slots)
theorem met_of {ws : List Jvm.Cond} {rm : Room} {as : Array Value} (hpl : plainFor y = true) (hef : ∀ m, entryFrame m as maxL = mkF m 0 Ls []) (O : Old Z n0 h)
    (body : ∀ p e s m below meth c, Ctx p s m meth c Z y bytes maxL ret → Go p l e rm s m as below meth c Z n0 Q rm.cells rm.slots h 0 0 (mkF m 0 Ls [])) : Met l Z n0 y bytes maxL ret ws rm as h Q := by
  refine MetFree.of_bodySF hpl hisR ?_
  intro p e s m args below meth c s₁ Bd hml hP hK
  obtain ⟨rfl, hZ, hh⟩ := hP
  have X0 := Stand.of_body Bd
  obtain ⟨U, v, L', h1, h2, h3, h4, h5, h6, h7, h8⟩ := body p e s m below meth c ⟨Bd.exec, Bd.bytes, hml, Bd.returns, Bd.notSynchronized, hZ, findClass_of_methodNamed Bd.named, (name_of_methodNamed Bd.named Bd.method).1⟩ s₁ [] s.vm 0 ((State.WarmedH.refl s).since 0) (Nat.zero_le _) (Fr.nil n0) O X0 (by rw [← hh, Bd.state]; rfl)
  exact ⟨U, _, castTop (hef m) h1, h2, h3, v, L', rfl, ⟨h4, h5, h8⟩, ⟨_, rfl⟩, h6.1, h6.2, h7⟩
theorem Met.mono {ws : List Jvm.Cond} {rm : Room} {as : Array Value} {Q' : Option Value → Heap → Prop} (M : Met l Z n0 y bytes maxL ret ws rm as h Q) (q : ∀ v h', Q v h' → Q' v h') : Met l Z n0 y bytes maxL ret ws rm as h Q' := by
  unfold Met at M ⊢
  refine MetFree.mono M (fun _ _ h => h) (fun _ _ _ _ _ h => h) ?_
  rintro _ _ _ _ _ ⟨v, L, h1, ⟨h2, h3, h4⟩, h5⟩
  exact ⟨v, L, h1, ⟨h2, h3, q _ _ h4⟩, h5⟩
theorem go_step {g g' : JFrame} (K : Go p l e R s m args below meth c Z n0 Q kc ks h cs sl g') (hs : ∀ T t, At T m c below → Steps p.tables e below (T.setTop g') t → Steps p.tables e below (T.setTop g) t) : Go p l e R s m args below meth c Z n0 Q kc ks h cs sl g := fun T L vm0 k0 hS hk hL O X eT => by
  obtain ⟨U, v, L', h1, r⟩ := K T L vm0 k0 hS hk hL O X eT
  exact ⟨U, v, L', hs T U X.here h1, r⟩
theorem go_stepX {g g' : JFrame} (K : Go p l e R s m args below meth c Z n0 Q kc ks h cs sl g') (hs : ∀ T t L vm0 k0, s.Since vm0 k0 → Stand p l e R (s.setVm vm0) m args below meth c T L cs sl → T.heap = h → Steps p.tables e below (T.setTop g') t → Steps p.tables e below (T.setTop g) t) : Go p l e R s m args below meth c Z n0 Q kc ks h cs sl g := fun T L vm0 k0 hS hk hL O X eT => by
  obtain ⟨U, v, L', h1, r⟩ := K T L vm0 k0 hS hk hL O X eT
  exact ⟨U, v, L', hs T U L vm0 k0 hS X eT h1, r⟩
theorem go_stepT {g g' : JFrame} (K : Go p l e R s m args below meth c Z n0 Q kc ks h cs sl g') (hs : ∀ T L vm0 k0, s.Since vm0 k0 → Stand p l e R (s.setVm vm0) m args below meth c T L cs sl → T.heap = h → ∃ T', Stand p l e R (s.setVm vm0) m args below meth c T' L cs sl ∧ T'.heap = h ∧ ∀ t, Steps p.tables e below (T'.setTop g') t → Steps p.tables e below (T.setTop g) t) : Go p l e R s m args below meth c Z n0 Q kc ks h cs sl g := fun T L vm0 k0 hS hk hL O X eT => by
  obtain ⟨T', X', e', hs'⟩ := hs T L vm0 k0 hS X eT
  obtain ⟨U, v, L', h1, r⟩ := K T' L vm0 k0 hS hk hL O X' e'
  exact ⟨U, v, L', hs' U h1, r⟩
theorem go_old {g : JFrame} (K : Old Z n0 h → Go p l e R s m args below meth c Z n0 Q kc ks h cs sl g) : Go p l e R s m args below meth c Z n0 Q kc ks h cs sl g := fun T L vm0 k0 hS hk hL O => K O T L vm0 k0 hS hk hL O
theorem go_more {g : JFrame} {cs' sl' : Nat} (hc : cs ≤ cs') (hs : sl ≤ sl') (K : Go p l e R s m args below meth c Z n0 Q kc ks h cs' sl' g) : Go p l e R s m args below meth c Z n0 Q kc ks h cs sl g := fun T L vm0 k0 hS hk hL O X eT => K T L vm0 k0 hS hk hL O (X.more hc hs) eT
theorem go_st {st' : List Value} (e0 : st = st') (K : Go p l e R s m args below meth c Z n0 Q kc ks h cs sl (mkF m pc Ls st')) : Go p l e R s m args below meth c Z n0 Q kc ks h cs sl (mkF m pc Ls st) := e0 ▸ K
theorem go_ls (e0 : Ls = Ls') (K : Go p l e R s m args below meth c Z n0 Q kc ks h cs sl (mkF m pc Ls' st)) : Go p l e R s m args below meth c Z n0 Q kc ks h cs sl (mkF m pc Ls st) := e0 ▸ K
theorem go_h {h' : Heap} {g : JFrame} (e0 : h = h') (K : Go p l e R s m args below meth c Z n0 Q kc ks h' cs sl g) : Go p l e R s m args below meth c Z n0 Q kc ks h cs sl g := e0 ▸ K
theorem go_iload (C : Ctx p s m meth c Z y bytes maxL ret) {k : Nat} {x : Int32} (hd : decode bytes pc = .ok (.iload k, 2)) (hl : Ls[k]? = some (.val (.int x))) (hp : pc + 2 = pc') (K : Go p l e R s m args below meth c Z n0 Q kc ks h cs sl (mkF m pc' Ls (.int x :: st))) : Go p l e R s m args below meth c Z n0 Q kc ks h cs sl (mkF m pc Ls (st)) := by
  subst hp
  exact go_step K fun T t a k => XS.iload a C.1 rfl (hb C.2.1 hd) hl k
theorem go_iloadN (C : Ctx p s m meth c Z y bytes maxL ret) {k : Fin 4} {x : Int32} (hd : decode bytes pc = .ok (.iload_n k, 1)) (hl : Ls[k.val]? = some (.val (.int x))) (hp : pc + 1 = pc') (K : Go p l e R s m args below meth c Z n0 Q kc ks h cs sl (mkF m pc' Ls (.int x :: st))) : Go p l e R s m args below meth c Z n0 Q kc ks h cs sl (mkF m pc Ls (st)) := by
  subst hp
  exact go_step K fun T t a k => XS.iloadN a C.1 rfl (hb C.2.1 hd) hl k
theorem go_lload (C : Ctx p s m meth c Z y bytes maxL ret) {k : Nat} {x : Int64} (hd : decode bytes pc = .ok (.lload k, 2)) (hl : Ls[k]? = some (.val (.long x))) (hp : pc + 2 = pc') (K : Go p l e R s m args below meth c Z n0 Q kc ks h cs sl (mkF m pc' Ls (.long x :: st))) : Go p l e R s m args below meth c Z n0 Q kc ks h cs sl (mkF m pc Ls (st)) := by
  subst hp
  exact go_step K fun T t a k => XS.lload a C.1 rfl (hb C.2.1 hd) hl k
theorem go_lloadN (C : Ctx p s m meth c Z y bytes maxL ret) {k : Fin 4} {x : Int64} (hd : decode bytes pc = .ok (.lload_n k, 1)) (hl : Ls[k.val]? = some (.val (.long x))) (hp : pc + 1 = pc') (K : Go p l e R s m args below meth c Z n0 Q kc ks h cs sl (mkF m pc' Ls (.long x :: st))) : Go p l e R s m args below meth c Z n0 Q kc ks h cs sl (mkF m pc Ls (st)) := by
  subst hp
  exact go_step K fun T t a k => XS.lloadN a C.1 rfl (hb C.2.1 hd) hl k
theorem go_aload (C : Ctx p s m meth c Z y bytes maxL ret) {k : Nat} {v : Value} (hd : decode bytes pc = .ok (.aload k, 2)) (hl : Ls[k]? = some (.val v)) (hv : v.isRef = true) (hp : pc + 2 = pc') (K : Go p l e R s m args below meth c Z n0 Q kc ks h cs sl (mkF m pc' Ls (v :: st))) : Go p l e R s m args below meth c Z n0 Q kc ks h cs sl (mkF m pc Ls (st)) := by
  subst hp
  exact go_step K fun T t a k => XS.aload a C.1 rfl (hb C.2.1 hd) hl hv k
theorem go_aloadN (C : Ctx p s m meth c Z y bytes maxL ret) {k : Fin 4} {v : Value} (hd : decode bytes pc = .ok (.aload_n k, 1)) (hl : Ls[k.val]? = some (.val v)) (hv : v.isRef = true) (hp : pc + 1 = pc') (K : Go p l e R s m args below meth c Z n0 Q kc ks h cs sl (mkF m pc' Ls (v :: st))) : Go p l e R s m args below meth c Z n0 Q kc ks h cs sl (mkF m pc Ls (st)) := by
  subst hp
  exact go_step K fun T t a k => XS.aloadN a C.1 rfl (hb C.2.1 hd) hl hv k
theorem go_istore (C : Ctx p s m meth c Z y bytes maxL ret) {k : Nat} {x : Int32} (hd : decode bytes pc = .ok (.istore k, 2)) (hl : storeLocals Ls k (.int x) = some Ls') (hp : pc + 2 = pc') (K : Go p l e R s m args below meth c Z n0 Q kc ks h cs sl (mkF m pc' Ls' (st))) : Go p l e R s m args below meth c Z n0 Q kc ks h cs sl (mkF m pc Ls (.int x :: st)) := by
  subst hp
  exact go_step K fun T t a k => XS.istore a C.1 rfl (hb C.2.1 hd) rfl hl k
theorem go_istoreN (C : Ctx p s m meth c Z y bytes maxL ret) {k : Fin 4} {x : Int32} (hd : decode bytes pc = .ok (.istore_n k, 1)) (hl : storeLocals Ls k.val (.int x) = some Ls') (hp : pc + 1 = pc') (K : Go p l e R s m args below meth c Z n0 Q kc ks h cs sl (mkF m pc' Ls' (st))) : Go p l e R s m args below meth c Z n0 Q kc ks h cs sl (mkF m pc Ls (.int x :: st)) := by
  subst hp
  exact go_step K fun T t a k => XS.istoreN a C.1 rfl (hb C.2.1 hd) rfl hl k
theorem go_lstore (C : Ctx p s m meth c Z y bytes maxL ret) {k : Nat} {x : Int64} (hd : decode bytes pc = .ok (.lstore k, 2)) (hl : storeLocals Ls k (.long x) = some Ls') (hp : pc + 2 = pc') (K : Go p l e R s m args below meth c Z n0 Q kc ks h cs sl (mkF m pc' Ls' (st))) : Go p l e R s m args below meth c Z n0 Q kc ks h cs sl (mkF m pc Ls (.long x :: st)) := by
  subst hp
  exact go_step K fun T t a k => XS.lstore a C.1 rfl (hb C.2.1 hd) rfl hl k
theorem go_lstoreN (C : Ctx p s m meth c Z y bytes maxL ret) {k : Fin 4} {x : Int64} (hd : decode bytes pc = .ok (.lstore_n k, 1)) (hl : storeLocals Ls k.val (.long x) = some Ls') (hp : pc + 1 = pc') (K : Go p l e R s m args below meth c Z n0 Q kc ks h cs sl (mkF m pc' Ls' (st))) : Go p l e R s m args below meth c Z n0 Q kc ks h cs sl (mkF m pc Ls (.long x :: st)) := by
  subst hp
  exact go_step K fun T t a k => XS.lstoreN a C.1 rfl (hb C.2.1 hd) rfl hl k
theorem go_astore (C : Ctx p s m meth c Z y bytes maxL ret) {k : Nat} {v : Value} (hd : decode bytes pc = .ok (.astore k, 2)) (hv : v.isRef = true) (hl : storeLocals Ls k v = some Ls') (hp : pc + 2 = pc') (K : Go p l e R s m args below meth c Z n0 Q kc ks h cs sl (mkF m pc' Ls' (st))) : Go p l e R s m args below meth c Z n0 Q kc ks h cs sl (mkF m pc Ls (v :: st)) := by
  subst hp
  exact go_step K fun T t a k => XS.astore a C.1 rfl (hb C.2.1 hd) rfl hv hl k
theorem go_astoreN (C : Ctx p s m meth c Z y bytes maxL ret) {k : Fin 4} {v : Value} (hd : decode bytes pc = .ok (.astore_n k, 1)) (hv : v.isRef = true) (hl : storeLocals Ls k.val v = some Ls') (hp : pc + 1 = pc') (K : Go p l e R s m args below meth c Z n0 Q kc ks h cs sl (mkF m pc' Ls' (st))) : Go p l e R s m args below meth c Z n0 Q kc ks h cs sl (mkF m pc Ls (v :: st)) := by
  subst hp
  exact go_step K fun T t a k => XS.astoreN a C.1 rfl (hb C.2.1 hd) rfl hv hl k
theorem go_iinc (C : Ctx p s m meth c Z y bytes maxL ret) {k : Nat} {cst : Int} {x : Int32} (hd : decode bytes pc = .ok (.iinc k cst, 3)) (hl : Ls[k]? = some (.val (.int x))) (hl' : storeLocals Ls k (.int (x + Int32.ofInt cst)) = some Ls') (hp : pc + 3 = pc') (K : Go p l e R s m args below meth c Z n0 Q kc ks h cs sl (mkF m pc' Ls' (st))) : Go p l e R s m args below meth c Z n0 Q kc ks h cs sl (mkF m pc Ls (st)) := by
  subst hp
  exact go_step K fun T t a k => XS.iinc a C.1 rfl (hb C.2.1 hd) hl hl' k
theorem go_iconst (C : Ctx p s m meth c Z y bytes maxL ret) {i : Int} {z : Int32} (hd : decode bytes pc = .ok (.iconst i, 1)) (hz : Int32.ofInt i = z) (hp : pc + 1 = pc') (K : Go p l e R s m args below meth c Z n0 Q kc ks h cs sl (mkF m pc' Ls (.int z :: st))) : Go p l e R s m args below meth c Z n0 Q kc ks h cs sl (mkF m pc Ls (st)) := by
  subst hp hz
  exact go_step K fun T t a k => XS.iconst a C.1 rfl (hb C.2.1 hd) k
theorem go_bipush (C : Ctx p s m meth c Z y bytes maxL ret) {i : Int} {z : Int32} (hd : decode bytes pc = .ok (.bipush i, 2)) (hz : (Int8.ofInt i).toInt32 = z) (hp : pc + 2 = pc') (K : Go p l e R s m args below meth c Z n0 Q kc ks h cs sl (mkF m pc' Ls (.int z :: st))) : Go p l e R s m args below meth c Z n0 Q kc ks h cs sl (mkF m pc Ls (st)) := by
  subst hp hz
  exact go_step K fun T t a k => XS.bipush a C.1 rfl (hb C.2.1 hd) k
theorem go_sipush (C : Ctx p s m meth c Z y bytes maxL ret) {i : Int} {z : Int32} (hd : decode bytes pc = .ok (.sipush i, 3)) (hz : (Int16.ofInt i).toInt32 = z) (hp : pc + 3 = pc') (K : Go p l e R s m args below meth c Z n0 Q kc ks h cs sl (mkF m pc' Ls (.int z :: st))) : Go p l e R s m args below meth c Z n0 Q kc ks h cs sl (mkF m pc Ls (st)) := by
  subst hp hz
  exact go_step K fun T t a k => XS.sipush a C.1 rfl (hb C.2.1 hd) k
theorem go_lconst (C : Ctx p s m meth c Z y bytes maxL ret) {k : Fin 2} {z : Int64} (hd : decode bytes pc = .ok (.lconst k, 1)) (hz : Int64.ofNat k = z) (hp : pc + 1 = pc') (K : Go p l e R s m args below meth c Z n0 Q kc ks h cs sl (mkF m pc' Ls (.long z :: st))) : Go p l e R s m args below meth c Z n0 Q kc ks h cs sl (mkF m pc Ls (st)) := by
  subst hp hz
  exact go_step K fun T t a k => XS.lconst a C.1 rfl (hb C.2.1 hd) k
theorem go_aconstNull (C : Ctx p s m meth c Z y bytes maxL ret)  (hd : decode bytes pc = .ok (.aconst_null, 1))  (hp : pc + 1 = pc') (K : Go p l e R s m args below meth c Z n0 Q kc ks h cs sl (mkF m pc' Ls (.null :: st))) : Go p l e R s m args below meth c Z n0 Q kc ks h cs sl (mkF m pc Ls (st)) := by
  subst hp
  exact go_step K fun T t a k => XS.aconstNull a C.1 rfl (hb C.2.1 hd) k
theorem go_iadd (C : Ctx p s m meth c Z y bytes maxL ret) {x y : Int32} (hd : decode bytes pc = .ok (.iadd, 1))  (hp : pc + 1 = pc') (K : Go p l e R s m args below meth c Z n0 Q kc ks h cs sl (mkF m pc' Ls (.int (x + y) :: st))) : Go p l e R s m args below meth c Z n0 Q kc ks h cs sl (mkF m pc Ls (.int y :: .int x :: st)) := by
  subst hp
  exact go_step K fun T t a k => XS.iadd a C.1 rfl (hb C.2.1 hd) rfl k
theorem go_ladd (C : Ctx p s m meth c Z y bytes maxL ret) {x y : Int64} (hd : decode bytes pc = .ok (.ladd, 1))  (hp : pc + 1 = pc') (K : Go p l e R s m args below meth c Z n0 Q kc ks h cs sl (mkF m pc' Ls (.long (x + y) :: st))) : Go p l e R s m args below meth c Z n0 Q kc ks h cs sl (mkF m pc Ls (.long y :: .long x :: st)) := by
  subst hp
  exact go_step K fun T t a k => XS.ladd a C.1 rfl (hb C.2.1 hd) rfl k
theorem go_isub (C : Ctx p s m meth c Z y bytes maxL ret) {x y : Int32} (hd : decode bytes pc = .ok (.isub, 1))  (hp : pc + 1 = pc') (K : Go p l e R s m args below meth c Z n0 Q kc ks h cs sl (mkF m pc' Ls (.int (x - y) :: st))) : Go p l e R s m args below meth c Z n0 Q kc ks h cs sl (mkF m pc Ls (.int y :: .int x :: st)) := by
  subst hp
  exact go_step K fun T t a k => XS.isub a C.1 rfl (hb C.2.1 hd) rfl k
theorem go_lsub (C : Ctx p s m meth c Z y bytes maxL ret) {x y : Int64} (hd : decode bytes pc = .ok (.lsub, 1))  (hp : pc + 1 = pc') (K : Go p l e R s m args below meth c Z n0 Q kc ks h cs sl (mkF m pc' Ls (.long (x - y) :: st))) : Go p l e R s m args below meth c Z n0 Q kc ks h cs sl (mkF m pc Ls (.long y :: .long x :: st)) := by
  subst hp
  exact go_step K fun T t a k => XS.lsub a C.1 rfl (hb C.2.1 hd) rfl k
theorem go_imul (C : Ctx p s m meth c Z y bytes maxL ret) {x y : Int32} (hd : decode bytes pc = .ok (.imul, 1))  (hp : pc + 1 = pc') (K : Go p l e R s m args below meth c Z n0 Q kc ks h cs sl (mkF m pc' Ls (.int (x * y) :: st))) : Go p l e R s m args below meth c Z n0 Q kc ks h cs sl (mkF m pc Ls (.int y :: .int x :: st)) := by
  subst hp
  exact go_step K fun T t a k => XS.imul a C.1 rfl (hb C.2.1 hd) rfl k
theorem go_lmul (C : Ctx p s m meth c Z y bytes maxL ret) {x y : Int64} (hd : decode bytes pc = .ok (.lmul, 1))  (hp : pc + 1 = pc') (K : Go p l e R s m args below meth c Z n0 Q kc ks h cs sl (mkF m pc' Ls (.long (x * y) :: st))) : Go p l e R s m args below meth c Z n0 Q kc ks h cs sl (mkF m pc Ls (.long y :: .long x :: st)) := by
  subst hp
  exact go_step K fun T t a k => XS.lmul a C.1 rfl (hb C.2.1 hd) rfl k
theorem go_iand (C : Ctx p s m meth c Z y bytes maxL ret) {x y : Int32} (hd : decode bytes pc = .ok (.iand, 1))  (hp : pc + 1 = pc') (K : Go p l e R s m args below meth c Z n0 Q kc ks h cs sl (mkF m pc' Ls (.int (x &&& y) :: st))) : Go p l e R s m args below meth c Z n0 Q kc ks h cs sl (mkF m pc Ls (.int y :: .int x :: st)) := by
  subst hp
  exact go_step K fun T t a k => XS.iand a C.1 rfl (hb C.2.1 hd) rfl k
theorem go_land (C : Ctx p s m meth c Z y bytes maxL ret) {x y : Int64} (hd : decode bytes pc = .ok (.land, 1))  (hp : pc + 1 = pc') (K : Go p l e R s m args below meth c Z n0 Q kc ks h cs sl (mkF m pc' Ls (.long (x &&& y) :: st))) : Go p l e R s m args below meth c Z n0 Q kc ks h cs sl (mkF m pc Ls (.long y :: .long x :: st)) := by
  subst hp
  exact go_step K fun T t a k => XS.land a C.1 rfl (hb C.2.1 hd) rfl k
theorem go_ior (C : Ctx p s m meth c Z y bytes maxL ret) {x y : Int32} (hd : decode bytes pc = .ok (.ior, 1))  (hp : pc + 1 = pc') (K : Go p l e R s m args below meth c Z n0 Q kc ks h cs sl (mkF m pc' Ls (.int (x ||| y) :: st))) : Go p l e R s m args below meth c Z n0 Q kc ks h cs sl (mkF m pc Ls (.int y :: .int x :: st)) := by
  subst hp
  exact go_step K fun T t a k => XS.ior a C.1 rfl (hb C.2.1 hd) rfl k
theorem go_lor (C : Ctx p s m meth c Z y bytes maxL ret) {x y : Int64} (hd : decode bytes pc = .ok (.lor, 1))  (hp : pc + 1 = pc') (K : Go p l e R s m args below meth c Z n0 Q kc ks h cs sl (mkF m pc' Ls (.long (x ||| y) :: st))) : Go p l e R s m args below meth c Z n0 Q kc ks h cs sl (mkF m pc Ls (.long y :: .long x :: st)) := by
  subst hp
  exact go_step K fun T t a k => XS.lor a C.1 rfl (hb C.2.1 hd) rfl k
theorem go_ixor (C : Ctx p s m meth c Z y bytes maxL ret) {x y : Int32} (hd : decode bytes pc = .ok (.ixor, 1))  (hp : pc + 1 = pc') (K : Go p l e R s m args below meth c Z n0 Q kc ks h cs sl (mkF m pc' Ls (.int (x ^^^ y) :: st))) : Go p l e R s m args below meth c Z n0 Q kc ks h cs sl (mkF m pc Ls (.int y :: .int x :: st)) := by
  subst hp
  exact go_step K fun T t a k => XS.ixor a C.1 rfl (hb C.2.1 hd) rfl k
theorem go_lxor (C : Ctx p s m meth c Z y bytes maxL ret) {x y : Int64} (hd : decode bytes pc = .ok (.lxor, 1))  (hp : pc + 1 = pc') (K : Go p l e R s m args below meth c Z n0 Q kc ks h cs sl (mkF m pc' Ls (.long (x ^^^ y) :: st))) : Go p l e R s m args below meth c Z n0 Q kc ks h cs sl (mkF m pc Ls (.long y :: .long x :: st)) := by
  subst hp
  exact go_step K fun T t a k => XS.lxor a C.1 rfl (hb C.2.1 hd) rfl k
theorem go_ishl (C : Ctx p s m meth c Z y bytes maxL ret) {x y : Int32} (hd : decode bytes pc = .ok (.ishl, 1))  (hp : pc + 1 = pc') (K : Go p l e R s m args below meth c Z n0 Q kc ks h cs sl (mkF m pc' Ls (.int (x <<< (y &&& 31)) :: st))) : Go p l e R s m args below meth c Z n0 Q kc ks h cs sl (mkF m pc Ls (.int y :: .int x :: st)) := by
  subst hp
  exact go_step K fun T t a k => XS.ishl a C.1 rfl (hb C.2.1 hd) rfl k
theorem go_ishr (C : Ctx p s m meth c Z y bytes maxL ret) {x y : Int32} (hd : decode bytes pc = .ok (.ishr, 1))  (hp : pc + 1 = pc') (K : Go p l e R s m args below meth c Z n0 Q kc ks h cs sl (mkF m pc' Ls (.int (x >>> (y &&& 31)) :: st))) : Go p l e R s m args below meth c Z n0 Q kc ks h cs sl (mkF m pc Ls (.int y :: .int x :: st)) := by
  subst hp
  exact go_step K fun T t a k => XS.ishr a C.1 rfl (hb C.2.1 hd) rfl k
theorem go_iushr (C : Ctx p s m meth c Z y bytes maxL ret) {x y : Int32} (hd : decode bytes pc = .ok (.iushr, 1))  (hp : pc + 1 = pc') (K : Go p l e R s m args below meth c Z n0 Q kc ks h cs sl (mkF m pc' Ls (.int ((x.toUInt32 >>> (y &&& 31).toUInt32).toInt32) :: st))) : Go p l e R s m args below meth c Z n0 Q kc ks h cs sl (mkF m pc Ls (.int y :: .int x :: st)) := by
  subst hp
  exact go_step K fun T t a k => XS.iushr a C.1 rfl (hb C.2.1 hd) rfl k
theorem go_lshl (C : Ctx p s m meth c Z y bytes maxL ret) {x : Int64} {y' : Int32} (hd : decode bytes pc = .ok (.lshl, 1))  (hp : pc + 1 = pc') (K : Go p l e R s m args below meth c Z n0 Q kc ks h cs sl (mkF m pc' Ls (.long (x <<< (y' &&& 0x3f).toInt64) :: st))) : Go p l e R s m args below meth c Z n0 Q kc ks h cs sl (mkF m pc Ls (.int y' :: .long x :: st)) := by
  subst hp
  exact go_step K fun T t a k => XS.lshl a C.1 rfl (hb C.2.1 hd) rfl k
theorem go_lshr (C : Ctx p s m meth c Z y bytes maxL ret) {x : Int64} {y' : Int32} (hd : decode bytes pc = .ok (.lshr, 1))  (hp : pc + 1 = pc') (K : Go p l e R s m args below meth c Z n0 Q kc ks h cs sl (mkF m pc' Ls (.long (x >>> (y' &&& 0x3f).toInt64) :: st))) : Go p l e R s m args below meth c Z n0 Q kc ks h cs sl (mkF m pc Ls (.int y' :: .long x :: st)) := by
  subst hp
  exact go_step K fun T t a k => XS.lshr a C.1 rfl (hb C.2.1 hd) rfl k
theorem go_lushr (C : Ctx p s m meth c Z y bytes maxL ret) {x : Int64} {y' : Int32} (hd : decode bytes pc = .ok (.lushr, 1))  (hp : pc + 1 = pc') (K : Go p l e R s m args below meth c Z n0 Q kc ks h cs sl (mkF m pc' Ls (.long ((x.toUInt64 >>> (y' &&& 0x3f).toInt64.toUInt64).toInt64) :: st))) : Go p l e R s m args below meth c Z n0 Q kc ks h cs sl (mkF m pc Ls (.int y' :: .long x :: st)) := by
  subst hp
  exact go_step K fun T t a k => XS.lushr a C.1 rfl (hb C.2.1 hd) rfl k
theorem go_lcmp (C : Ctx p s m meth c Z y bytes maxL ret) {x y' : Int64} (hd : decode bytes pc = .ok (.lcmp, 1))  (hp : pc + 1 = pc') (K : Go p l e R s m args below meth c Z n0 Q kc ks h cs sl (mkF m pc' Ls (.int (lcmpW x y') :: st))) : Go p l e R s m args below meth c Z n0 Q kc ks h cs sl (mkF m pc Ls (.long y' :: .long x :: st)) := by
  subst hp
  exact go_step K fun T t a k => XS.lcmp a C.1 rfl (hb C.2.1 hd) rfl k
theorem go_idiv (C : Ctx p s m meth c Z y bytes maxL ret) {x y' : Int32} (hd : decode bytes pc = .ok (.idiv, 1)) (hy : y' ≠ 0) (hp : pc + 1 = pc') (K : Go p l e R s m args below meth c Z n0 Q kc ks h cs sl (mkF m pc' Ls (.int (x / y') :: st))) : Go p l e R s m args below meth c Z n0 Q kc ks h cs sl (mkF m pc Ls (.int y' :: .int x :: st)) := by
  subst hp
  exact go_step K fun T t a k => XS.idiv a C.1 rfl (hb C.2.1 hd) rfl hy k
theorem go_ldiv (C : Ctx p s m meth c Z y bytes maxL ret) {x y' : Int64} (hd : decode bytes pc = .ok (.ldiv, 1)) (hy : y' ≠ 0) (hp : pc + 1 = pc') (K : Go p l e R s m args below meth c Z n0 Q kc ks h cs sl (mkF m pc' Ls (.long (x / y') :: st))) : Go p l e R s m args below meth c Z n0 Q kc ks h cs sl (mkF m pc Ls (.long y' :: .long x :: st)) := by
  subst hp
  exact go_step K fun T t a k => XS.ldiv a C.1 rfl (hb C.2.1 hd) rfl hy k
theorem go_irem (C : Ctx p s m meth c Z y bytes maxL ret) {x y' : Int32} (hd : decode bytes pc = .ok (.irem, 1)) (hy : y' ≠ 0) (hp : pc + 1 = pc') (K : Go p l e R s m args below meth c Z n0 Q kc ks h cs sl (mkF m pc' Ls (.int (x % y') :: st))) : Go p l e R s m args below meth c Z n0 Q kc ks h cs sl (mkF m pc Ls (.int y' :: .int x :: st)) := by
  subst hp
  exact go_step K fun T t a k => XS.irem a C.1 rfl (hb C.2.1 hd) rfl hy (by rw [irem_eq_mod]; exact k)
theorem go_lrem (C : Ctx p s m meth c Z y bytes maxL ret) {x y' : Int64} (hd : decode bytes pc = .ok (.lrem, 1)) (hy : y' ≠ 0) (hp : pc + 1 = pc') (K : Go p l e R s m args below meth c Z n0 Q kc ks h cs sl (mkF m pc' Ls (.long (x % y') :: st))) : Go p l e R s m args below meth c Z n0 Q kc ks h cs sl (mkF m pc Ls (.long y' :: .long x :: st)) := by
  subst hp
  exact go_step K fun T t a k => XS.lrem a C.1 rfl (hb C.2.1 hd) rfl hy (by rw [lrem_mod]; exact k)
theorem go_ineg (C : Ctx p s m meth c Z y bytes maxL ret) {x : Int32} (hd : decode bytes pc = .ok (.ineg, 1))  (hp : pc + 1 = pc') (K : Go p l e R s m args below meth c Z n0 Q kc ks h cs sl (mkF m pc' Ls (.int (-x) :: st))) : Go p l e R s m args below meth c Z n0 Q kc ks h cs sl (mkF m pc Ls (.int x :: st)) := by
  subst hp
  exact go_step K fun T t a k => XS.ineg a C.1 rfl (hb C.2.1 hd) rfl k
theorem go_lneg (C : Ctx p s m meth c Z y bytes maxL ret) {x : Int64} (hd : decode bytes pc = .ok (.lneg, 1))  (hp : pc + 1 = pc') (K : Go p l e R s m args below meth c Z n0 Q kc ks h cs sl (mkF m pc' Ls (.long (-x) :: st))) : Go p l e R s m args below meth c Z n0 Q kc ks h cs sl (mkF m pc Ls (.long x :: st)) := by
  subst hp
  exact go_step K fun T t a k => XS.lneg a C.1 rfl (hb C.2.1 hd) rfl k
theorem go_i2l (C : Ctx p s m meth c Z y bytes maxL ret) {x : Int32} (hd : decode bytes pc = .ok (.i2l, 1))  (hp : pc + 1 = pc') (K : Go p l e R s m args below meth c Z n0 Q kc ks h cs sl (mkF m pc' Ls (.long x.toInt64 :: st))) : Go p l e R s m args below meth c Z n0 Q kc ks h cs sl (mkF m pc Ls (.int x :: st)) := by
  subst hp
  exact go_step K fun T t a k => XS.i2l a C.1 rfl (hb C.2.1 hd) rfl k
theorem go_l2i (C : Ctx p s m meth c Z y bytes maxL ret) {x : Int64} (hd : decode bytes pc = .ok (.l2i, 1))  (hp : pc + 1 = pc') (K : Go p l e R s m args below meth c Z n0 Q kc ks h cs sl (mkF m pc' Ls (.int x.toInt32 :: st))) : Go p l e R s m args below meth c Z n0 Q kc ks h cs sl (mkF m pc Ls (.long x :: st)) := by
  subst hp
  exact go_step K fun T t a k => XS.l2i a C.1 rfl (hb C.2.1 hd) rfl k
theorem go_i2c (C : Ctx p s m meth c Z y bytes maxL ret) {x : Int32} (hd : decode bytes pc = .ok (.i2c, 1))  (hp : pc + 1 = pc') (K : Go p l e R s m args below meth c Z n0 Q kc ks h cs sl (mkF m pc' Ls (.int x.toUInt32.toUInt16.toUInt32.toInt32 :: st))) : Go p l e R s m args below meth c Z n0 Q kc ks h cs sl (mkF m pc Ls (.int x :: st)) := by
  subst hp
  exact go_step K fun T t a k => XS.i2c a C.1 rfl (hb C.2.1 hd) rfl k
theorem go_i2b (C : Ctx p s m meth c Z y bytes maxL ret) {x : Int32} (hd : decode bytes pc = .ok (.i2b, 1))  (hp : pc + 1 = pc') (K : Go p l e R s m args below meth c Z n0 Q kc ks h cs sl (mkF m pc' Ls (.int x.toInt8.toInt32 :: st))) : Go p l e R s m args below meth c Z n0 Q kc ks h cs sl (mkF m pc Ls (.int x :: st)) := by
  subst hp
  exact go_step K fun T t a k => XS.i2b a C.1 rfl (hb C.2.1 hd) rfl k
theorem go_dup (C : Ctx p s m meth c Z y bytes maxL ret) {v : Value} (hd : decode bytes pc = .ok (.dup, 1)) (hv : v.category = 1) (hp : pc + 1 = pc') (K : Go p l e R s m args below meth c Z n0 Q kc ks h cs sl (mkF m pc' Ls (v :: v :: st))) : Go p l e R s m args below meth c Z n0 Q kc ks h cs sl (mkF m pc Ls (v :: st)) := by
  subst hp
  exact go_step K fun T t a k => XS.dup a C.1 rfl (hb C.2.1 hd) rfl hv k
theorem go_dupX1 (C : Ctx p s m meth c Z y bytes maxL ret) {v w : Value} (hd : decode bytes pc = .ok (.dup_x1, 1)) (hv : v.category = 1) (hw : w.category = 1) (hp : pc + 1 = pc') (K : Go p l e R s m args below meth c Z n0 Q kc ks h cs sl (mkF m pc' Ls (v :: w :: v :: st))) : Go p l e R s m args below meth c Z n0 Q kc ks h cs sl (mkF m pc Ls (v :: w :: st)) := by
  subst hp
  exact go_step K fun T t a k => XS.dupX1 a C.1 rfl (hb C.2.1 hd) rfl hv hw k
theorem go_dup2 (C : Ctx p s m meth c Z y bytes maxL ret) {v w : Value} (hd : decode bytes pc = .ok (.dup2, 1)) (hv : v.category = 1) (hw : w.category = 1) (hp : pc + 1 = pc') (K : Go p l e R s m args below meth c Z n0 Q kc ks h cs sl (mkF m pc' Ls (v :: w :: v :: w :: st))) : Go p l e R s m args below meth c Z n0 Q kc ks h cs sl (mkF m pc Ls (v :: w :: st)) := by
  subst hp
  exact go_step K fun T t a k => XT.dup2 a C.1 rfl (hb C.2.1 hd) rfl hv hw k
theorem go_dup2L (C : Ctx p s m meth c Z y bytes maxL ret) {x : Int64} (hd : decode bytes pc = .ok (.dup2, 1))  (hp : pc + 1 = pc') (K : Go p l e R s m args below meth c Z n0 Q kc ks h cs sl (mkF m pc' Ls (.long x :: .long x :: st))) : Go p l e R s m args below meth c Z n0 Q kc ks h cs sl (mkF m pc Ls (.long x :: st)) := by
  subst hp
  exact go_step K fun T t a k => XT.dup2L a C.1 rfl (hb C.2.1 hd) rfl k
theorem go_pop (C : Ctx p s m meth c Z y bytes maxL ret) {v : Value} (hd : decode bytes pc = .ok (.pop, 1)) (hv : v.category = 1) (hp : pc + 1 = pc') (K : Go p l e R s m args below meth c Z n0 Q kc ks h cs sl (mkF m pc' Ls (st))) : Go p l e R s m args below meth c Z n0 Q kc ks h cs sl (mkF m pc Ls (v :: st)) := by
  subst hp
  exact go_step K fun T t a k => XS.pop a C.1 rfl (hb C.2.1 hd) rfl hv k
theorem go_goto (C : Ctx p s m meth c Z y bytes maxL ret)  {o : Int} (hd : decode bytes pc = .ok (.goto o, 3))  (ho : 0 ≤ (pc : Int) + o) (hp : ((pc : Int) + o).toNat = pc') (K : Go p l e R s m args below meth c Z n0 Q kc ks h cs sl (mkF m pc' Ls st)) : Go p l e R s m args below meth c Z n0 Q kc ks h cs sl (mkF m pc Ls (st)) :=
  go_step K fun T t a k => XS.goto a C.1 rfl rfl (hb C.2.1 hd) ho hp k
theorem go_ifYes (C : Ctx p s m meth c Z y bytes maxL ret) {cd : ClassFile.Cond} {x : Int32} {o : Int} (hd : decode bytes pc = .ok (.ifCond cd o, 3)) (hc : ifCond.holds cd x = true) (ho : 0 ≤ (pc : Int) + o) (hp : ((pc : Int) + o).toNat = pc') (K : Go p l e R s m args below meth c Z n0 Q kc ks h cs sl (mkF m pc' Ls st)) : Go p l e R s m args below meth c Z n0 Q kc ks h cs sl (mkF m pc Ls (.int x :: st)) :=
  go_step K fun T t a k => XS.ifYes a C.1 rfl rfl (hb C.2.1 hd) rfl hc ho hp k
theorem go_ifNo (C : Ctx p s m meth c Z y bytes maxL ret) {cd : ClassFile.Cond} {x : Int32} {o : Int} (hd : decode bytes pc = .ok (.ifCond cd o, 3)) (hc : ifCond.holds cd x = false) (hp : pc + 3 = pc') (K : Go p l e R s m args below meth c Z n0 Q kc ks h cs sl (mkF m pc' Ls st)) : Go p l e R s m args below meth c Z n0 Q kc ks h cs sl (mkF m pc Ls (.int x :: st)) := by
  subst hp
  exact go_step K fun T t a k => XS.ifNo a C.1 rfl (hb C.2.1 hd) rfl hc k
theorem go_icmpYes (C : Ctx p s m meth c Z y bytes maxL ret) {cd : ClassFile.Cond} {x y' : Int32} {o : Int} (hd : decode bytes pc = .ok (.if_icmp cd o, 3)) (hc : if_icmp.holds cd x y' = true) (ho : 0 ≤ (pc : Int) + o) (hp : ((pc : Int) + o).toNat = pc') (K : Go p l e R s m args below meth c Z n0 Q kc ks h cs sl (mkF m pc' Ls st)) : Go p l e R s m args below meth c Z n0 Q kc ks h cs sl (mkF m pc Ls (.int y' :: .int x :: st)) :=
  go_step K fun T t a k => XS.icmpYes a C.1 rfl rfl (hb C.2.1 hd) rfl hc ho hp k
theorem go_icmpNo (C : Ctx p s m meth c Z y bytes maxL ret) {cd : ClassFile.Cond} {x y' : Int32} {o : Int} (hd : decode bytes pc = .ok (.if_icmp cd o, 3)) (hc : if_icmp.holds cd x y' = false) (hp : pc + 3 = pc') (K : Go p l e R s m args below meth c Z n0 Q kc ks h cs sl (mkF m pc' Ls st)) : Go p l e R s m args below meth c Z n0 Q kc ks h cs sl (mkF m pc Ls (.int y' :: .int x :: st)) := by
  subst hp
  exact go_step K fun T t a k => XS.icmpNo a C.1 rfl (hb C.2.1 hd) rfl hc k
theorem go_ifnullYes (C : Ctx p s m meth c Z y bytes maxL ret)  {o : Int} (hd : decode bytes pc = .ok (.ifnull o, 3))  (ho : 0 ≤ (pc : Int) + o) (hp : ((pc : Int) + o).toNat = pc') (K : Go p l e R s m args below meth c Z n0 Q kc ks h cs sl (mkF m pc' Ls st)) : Go p l e R s m args below meth c Z n0 Q kc ks h cs sl (mkF m pc Ls (.null :: st)) :=
  go_step K fun T t a k => XS.ifnullYes a C.1 rfl rfl (hb C.2.1 hd) rfl ho hp k
theorem go_ifnullNo (C : Ctx p s m meth c Z y bytes maxL ret) {b : Addr} {o : Int} (hd : decode bytes pc = .ok (.ifnull o, 3))  (hp : pc + 3 = pc') (K : Go p l e R s m args below meth c Z n0 Q kc ks h cs sl (mkF m pc' Ls st)) : Go p l e R s m args below meth c Z n0 Q kc ks h cs sl (mkF m pc Ls (.ref b :: st)) := by
  subst hp
  exact go_step K fun T t a k => XS.ifnullNo a C.1 rfl (hb C.2.1 hd) rfl k
theorem go_ifnonnullYes (C : Ctx p s m meth c Z y bytes maxL ret) {b : Addr} {o : Int} (hd : decode bytes pc = .ok (.ifnonnull o, 3))  (ho : 0 ≤ (pc : Int) + o) (hp : ((pc : Int) + o).toNat = pc') (K : Go p l e R s m args below meth c Z n0 Q kc ks h cs sl (mkF m pc' Ls st)) : Go p l e R s m args below meth c Z n0 Q kc ks h cs sl (mkF m pc Ls (.ref b :: st)) :=
  go_step K fun T t a k => XS.ifnonnullYes a C.1 rfl rfl (hb C.2.1 hd) rfl ho hp k
theorem go_ifnonnullNo (C : Ctx p s m meth c Z y bytes maxL ret)  {o : Int} (hd : decode bytes pc = .ok (.ifnonnull o, 3))  (hp : pc + 3 = pc') (K : Go p l e R s m args below meth c Z n0 Q kc ks h cs sl (mkF m pc' Ls st)) : Go p l e R s m args below meth c Z n0 Q kc ks h cs sl (mkF m pc Ls (.null :: st)) := by
  subst hp
  exact go_step K fun T t a k => XS.ifnonnullNo a C.1 rfl (hb C.2.1 hd) rfl k
theorem go_acmpYes (C : Ctx p s m meth c Z y bytes maxL ret) {cd : ClassFile.ACond} {v w : Value} {o : Int} (hd : decode bytes pc = .ok (.if_acmp cd o, 3)) (hv : v.isRef = true) (hw : w.isRef = true) (hc : XT.acmp cd v w = true) (ho : 0 ≤ (pc : Int) + o) (hp : ((pc : Int) + o).toNat = pc') (K : Go p l e R s m args below meth c Z n0 Q kc ks h cs sl (mkF m pc' Ls st)) : Go p l e R s m args below meth c Z n0 Q kc ks h cs sl (mkF m pc Ls (w :: v :: st)) :=
  go_step K fun T t a k => XT.acmpYes a C.1 rfl rfl (hb C.2.1 hd) rfl hv hw hc ho hp k
theorem go_acmpNo (C : Ctx p s m meth c Z y bytes maxL ret) {cd : ClassFile.ACond} {v w : Value} {o : Int} (hd : decode bytes pc = .ok (.if_acmp cd o, 3)) (hv : v.isRef = true) (hw : w.isRef = true) (hc : XT.acmp cd v w = false) (hp : pc + 3 = pc') (K : Go p l e R s m args below meth c Z n0 Q kc ks h cs sl (mkF m pc' Ls st)) : Go p l e R s m args below meth c Z n0 Q kc ks h cs sl (mkF m pc Ls (w :: v :: st)) := by
  subst hp
  exact go_step K fun T t a k => XT.acmpNo a C.1 rfl (hb C.2.1 hd) rfl hv hw hc k
theorem go_tswIn (C : Ctx p s m meth c Z y bytes maxL ret) {dflt low high : Int} {offs : Array Int} {len : Nat} {o : Int} {i : Int32} (hd : decode bytes pc = .ok (.tableswitch dflt low high offs, len)) (hin : ¬ (i.toInt < low ∨ i.toInt > high)) (hoff : offs[(i.toInt - low).toNat]? = some o) (ho : 0 ≤ (pc : Int) + o) (hp : ((pc : Int) + o).toNat = pc') (K : Go p l e R s m args below meth c Z n0 Q kc ks h cs sl (mkF m pc' Ls st)) : Go p l e R s m args below meth c Z n0 Q kc ks h cs sl (mkF m pc Ls (.int i :: st)) :=
  go_step K fun T t a k => XS.tswIn a C.1 rfl rfl (hb C.2.1 hd) rfl hin hoff ho hp k
theorem go_ldcInt (C : Ctx p s m meth c Z y bytes maxL ret) {index : Nat} {v : Int32} (w : (Jvm.Cond.constant y.cls index v).before a0 Z = true) (hd : decode bytes pc = .ok (.ldc index, 2)) (hp : pc + 2 = pc') (K : Go p l e R s m args below meth c Z n0 Q kc ks h cs sl (mkF m pc' Ls (.int v :: st))) : Go p l e R s m args below meth c Z n0 Q kc ks h cs sl (mkF m pc Ls st) := by
  subst hp
  exact go_stepX K fun T t L vm0 k0 hS X eT k => X.ldcInt C.1 (ow C hS) (mvT (zw C hS) w) (g := mkF m pc Ls st) rfl (hb C.2.1 hd) t k
theorem go_ldcwInt (C : Ctx p s m meth c Z y bytes maxL ret) {index : Nat} {v : Int32} (w : (Jvm.Cond.constant y.cls index v).before a0 Z = true) (hd : decode bytes pc = .ok (.ldc_w index, 3)) (hp : pc + 3 = pc') (K : Go p l e R s m args below meth c Z n0 Q kc ks h cs sl (mkF m pc' Ls (.int v :: st))) : Go p l e R s m args below meth c Z n0 Q kc ks h cs sl (mkF m pc Ls st) := by
  subst hp
  exact go_stepX K fun T t L vm0 k0 hS X eT k => X.ldcwInt C.1 (ow C hS) (mvT (zw C hS) w) (g := mkF m pc Ls st) rfl (hb C.2.1 hd) t k
theorem go_ldcLong (C : Ctx p s m meth c Z y bytes maxL ret) {index : Nat} {v : Int64} (w : (Jvm.Cond.constantLong y.cls index v).before a0 Z = true) (hd : decode bytes pc = .ok (.ldc2_w index, 3)) (hp : pc + 3 = pc') (K : Go p l e R s m args below meth c Z n0 Q kc ks h cs sl (mkF m pc' Ls (.long v :: st))) : Go p l e R s m args below meth c Z n0 Q kc ks h cs sl (mkF m pc Ls st) := by
  subst hp
  exact go_stepX K fun T t L vm0 k0 hS X eT k => X.ldc2Long C.1 (ow C hS) (mvT (zw C hS) w) (g := mkF m pc Ls st) rfl (hb C.2.1 hd) t k
theorem go_getF (C : Ctx p s m meth c Z y bytes maxL ret) {R0 O n d host : String} {index : Nat} {a : Addr} {v : Value} (w : (Jvm.Cond.fieldLink y.cls index R0 n d).before a0 Z = true ∨ (Jvm.Cond.fieldLinkNest y.cls index R0 n d host).before a0 Z = true) (via : Via Z R0 O n d) (F : Fld Z h a O n d v) (hd : decode bytes pc = .ok (.getfield index, 3)) (hp : pc + 3 = pc') (K : Go p l e R s m args below meth c Z n0 Q kc ks h cs sl (mkF m pc' Ls (v :: st))) : Go p l e R s m args below meth c Z n0 Q kc ks h cs sl (mkF m pc Ls (.ref a :: st)) := by
  subst hp
  exact go_stepT K fun T L vm0 k0 hS X eT => getF X C.1 (zw C hS) (ow C hS) w via eT F (g := mkF m pc Ls (.ref a :: st)) rfl rfl (hb C.2.1 hd)
theorem go_getS (C : Ctx p s m meth c Z y bytes maxL ret) {R0 O n d host : String} {index : Nat} {v : Value} (w : (Jvm.Cond.fieldLink y.cls index R0 n d).before a0 Z = true ∨ (Jvm.Cond.fieldLinkNest y.cls index R0 n d host).before a0 Z = true) (via : Via Z R0 O n d) (F : Sta Z h O n d v) (hd : decode bytes pc = .ok (.getstatic index, 3)) (hp : pc + 3 = pc') (K : Go p l e R s m args below meth c Z n0 Q kc ks h cs sl (mkF m pc' Ls (v :: st))) : Go p l e R s m args below meth c Z n0 Q kc ks h cs sl (mkF m pc Ls st) := by
  subst hp
  exact go_stepT K fun T L vm0 k0 hS X eT => getS2 X C.1 (zw C hS) (ow C hS) w via eT F (g := mkF m pc Ls st) rfl (hb C.2.1 hd)
theorem go_putF (C : Ctx p s m meth c Z y bytes maxL ret) {R0 O n d host K0 : String} {index kk : Nat} {ty : FieldType} {a : Addr} {v old : Value} (w : (Jvm.Cond.fieldLink y.cls index R0 n d).before a0 Z = true ∨ (Jvm.Cond.fieldLinkNest y.cls index R0 n d host).before a0 Z = true) (via : Via Z R0 O n d) (F : Fld Z h a O n d old) (E : Exa Z h a K0) (L : (Jvm.Cond.lays K0 O n d).before a0 Z = true ∨ ((Jvm.Cond.laysFinal K0 O n d).before a0 Z = true ∧ y.cls = O ∧ y.name = "<init>")) (wi : (Jvm.Cond.instantiable K0 kk).before a0 Z = true)
    (hty : parseFieldDescriptor d = some ty) (hn : narrow ty v = v) (hf : fits ty v = true) (hd : decode bytes pc = .ok (.putfield index, 3)) (hp : pc + 3 = pc') (ha : n0 ≤ a) (K : ∀ h', Wr h h' a (Jvm.RoadKit.slotOf Z O n d) v → Fld Z h' a O n d v → Go p l e R s m args below meth c Z n0 Q kc ks h' cs sl (mkF m pc' Ls st)) : Go p l e R s m args below meth c Z n0 Q kc ks h cs sl (mkF m pc Ls (v :: .ref a :: st)) := fun T L0 vm0 k0 hS hk hL O X eT => by
  subst hp
  obtain ⟨T', h', X', e', W, hs⟩ := putF X C.1 (zw C hS) (ow C hS) w via eT F E (L.imp id fun q => ⟨q.1, q.2.1, C.2.2.2.2.2.2.2.trans q.2.2⟩) wi hty hn hf (g := mkF m pc Ls (v :: .ref a :: st)) rfl rfl (hb C.2.1 hd)
  obtain ⟨U, v, L', h1, r⟩ := K h' W (F.same W) T' _ vm0 k0 hS (W.size.symm ▸ hk) (Fr.snoc X' hL ha) (O.wr W ha) X' e'
  exact ⟨U, v, L', hs U h1, r⟩
theorem go_putFN (C : Ctx p s m meth c Z y bytes maxL ret) {R0 O n d K0 : String} {index kk : Nat} {ty : FieldType} {a : Addr} {v v' old : Value} (w : (Jvm.Cond.fieldLink y.cls index R0 n d).before a0 Z = true) (via : Via Z R0 O n d) (F : Fld Z h a O n d old) (E : Exa Z h a K0) (L : (Jvm.Cond.lays K0 O n d).before a0 Z = true ∨ ((Jvm.Cond.laysFinal K0 O n d).before a0 Z = true ∧ y.cls = O ∧ y.name = "<init>")) (wi : (Jvm.Cond.instantiable K0 kk).before a0 Z = true)
    (hty : parseFieldDescriptor d = some ty) (hn : narrow ty v = v') (hf : fits ty v' = true) (hd : decode bytes pc = .ok (.putfield index, 3)) (hp : pc + 3 = pc') (ha : n0 ≤ a) (K : ∀ h', Wr h h' a (Jvm.RoadKit.slotOf Z O n d) v' → Fld Z h' a O n d v' → Go p l e R s m args below meth c Z n0 Q kc ks h' cs sl (mkF m pc' Ls st)) : Go p l e R s m args below meth c Z n0 Q kc ks h cs sl (mkF m pc Ls (v :: .ref a :: st)) := fun T L0 vm0 k0 hS hk hL O X eT => by
  subst hp
  obtain ⟨T', h', X', e', W, hs⟩ := putFN X C.1 (zw C hS) (ow C hS) w via eT F E (L.imp id fun q => ⟨q.1, q.2.1, C.2.2.2.2.2.2.2.trans q.2.2⟩) wi hty hn hf (g := mkF m pc Ls (v :: .ref a :: st)) rfl rfl (hb C.2.1 hd)
  obtain ⟨U, v, L', h1, r⟩ := K h' W (F.same W) T' _ vm0 k0 hS (W.size.symm ▸ hk) (Fr.snoc X' hL ha) (O.wr W ha) X' e'
  exact ⟨U, v, L', hs U h1, r⟩
theorem go_new (C : Ctx p s m meth c Z y bytes maxL ret) {K0 : String} {index n : Nat} (w : (Jvm.Cond.classLink y.cls index K0).before a0 Z = true) (wi : (Jvm.Cond.instantiable K0 n).before a0 Z = true) (wz : (Jvm.Cond.initialized K0).before a0 Z = true) (hd : decode bytes pc = .ok (.new index, 3)) (hp : pc + 3 = pc') (hc : cs + 1 ≤ R.cells) (hl : sl + n ≤ R.slots)
    (K : ∀ h' a, a = h.size → n0 ≤ a → Ext h h' → Exa Z h' a K0 → (∀ {O nm d : String} {ty : FieldType}, Laid Z a0 K0 O nm d → parseFieldDescriptor d = some ty → Fld Z h' a O nm d (defaultValue ty)) → Go p l e R s m args below meth c Z n0 Q kc ks h' (cs + 1) (sl + n) (mkF m pc' Ls (.ref a :: st))) : Go p l e R s m args below meth c Z n0 Q kc ks h cs sl (mkF m pc Ls st) := fun T L0 vm0 k0 hS hk hL O X eT => by
  subst hp
  obtain ⟨T', h', X', e', E, A, D, -, hs⟩ := newO X C.1 (zw C hS) (ow C hS) w wi wz eT (g := mkF m pc Ls st) rfl (hb C.2.1 hd) hc hl
  obtain ⟨U, v, L', h1, r⟩ := K h' h.size rfl (O.1 ▸ O.2.1) E A D T' _ vm0 k0 hS (Nat.le_trans hk E.1) hL (O.ext E) X' e'
  exact ⟨U, v, L', hs U h1, r⟩
theorem go_newP (C : Ctx p s m meth c Z y bytes maxL ret) {aty : ArrayType} {n : Int32} {cap : Nat} (w : (Jvm.Cond.arrayClass (newarray.typeOf aty)).before a0 Z = true) (hd : decode bytes pc = .ok (.newarray aty, 2)) (hp : pc + 2 = pc') (hn : ¬ n < 0) (hcap : n.toNatClampNeg ≤ cap) (hb' : cap * 8 ≤ 536870912) (hc : cs + 1 ≤ R.cells) (hl : sl + cap ≤ R.slots)
    (K : ∀ h' a k, a = h.size → n0 ≤ a → Ext h h' → Arr Z h' a (newA k (newarray.typeOf aty) n) (newarray.typeOf aty) → Go p l e R s m args below meth c Z n0 Q kc ks h' (cs + 1) (sl + cap) (mkF m pc' Ls (.ref a :: st))) : Go p l e R s m args below meth c Z n0 Q kc ks h cs sl (mkF m pc Ls (.int n :: st)) := fun T L0 vm0 k0 hS hk hL O X eT => by
  subst hp
  obtain ⟨T', h', k, X', e', E, A, hs⟩ := newP X C.1 (zw C hS) w eT (g := mkF m pc Ls (.int n :: st)) rfl (hb C.2.1 hd) rfl hn hcap hb' hc hl
  obtain ⟨U, v, L', h1, r⟩ := K h' h.size k rfl (O.1 ▸ O.2.1) E A T' _ vm0 k0 hS (Nat.le_trans hk E.1) hL (O.ext E) X' e'
  exact ⟨U, v, L', hs U h1, r⟩
theorem go_newR (C : Ctx p s m meth c Z y bytes maxL ret) {K0 : String} {index : Nat} {n : Int32} {cap : Nat} (w1 : (Jvm.Cond.classLink y.cls index K0).before a0 Z = true) (w2 : (Jvm.Cond.arrayOver (.object K0)).before a0 Z = true) (hd : decode bytes pc = .ok (.anewarray index, 3)) (hp : pc + 3 = pc') (hn : ¬ n < 0) (hcap : n.toNatClampNeg ≤ cap) (hb' : cap * 8 ≤ 536870912) (hc : cs + 1 ≤ R.cells) (hl : sl + cap ≤ R.slots)
    (K : ∀ h' a k, a = h.size → n0 ≤ a → Ext h h' → Arr Z h' a (newA k (.object K0) n) (.object K0) → Ovr Z k K0 → Go p l e R s m args below meth c Z n0 Q kc ks h' (cs + 1) (sl + cap) (mkF m pc' Ls (.ref a :: st))) : Go p l e R s m args below meth c Z n0 Q kc ks h cs sl (mkF m pc Ls (.int n :: st)) := fun T L0 vm0 k0 hS hk hL O X eT => by
  subst hp
  obtain ⟨T', h', k, X', e', E, A, V, hs⟩ := newR X C.1 (zw C hS) (ow C hS) w1 w2 eT (g := mkF m pc Ls (.int n :: st)) rfl (hb C.2.1 hd) rfl hn hcap hb' hc hl
  obtain ⟨U, v, L', h1, r⟩ := K h' h.size k rfl (O.1 ▸ O.2.1) E A V T' _ vm0 k0 hS (Nat.le_trans hk E.1) hL (O.ext E) X' e'
  exact ⟨U, v, L', hs U h1, r⟩
theorem go_stI (C : Ctx p s m meth c Z y bytes maxL ret) {a : Addr} {cl : Cell} {j : Int32} {x : Int32} (A : Arr Z h a cl .int) (hj : ¬ (j < 0 ∨ cl.slots.size ≤ j.toNatClampNeg)) (hd : decode bytes pc = .ok (.iastore, 1)) (hp : pc + 1 = pc') (ha : n0 ≤ a)
    (K : ∀ h', Wr h h' a j.toNatClampNeg (.int x) → Arr Z h' a (cl.setSlot j.toNatClampNeg (.int x)) .int → Go p l e R s m args below meth c Z n0 Q kc ks h' cs sl (mkF m pc' Ls st)) : Go p l e R s m args below meth c Z n0 Q kc ks h cs sl (mkF m pc Ls (.int x :: .int j :: .ref a :: st)) := fun T L0 vm0 k0 hS hk hL O X eT => by
  subst hp
  obtain ⟨T', h', X', e', W, hs⟩ := stI X C.1 (zw C hS) eT A hj (g := mkF m pc Ls (.int x :: .int j :: .ref a :: st)) rfl rfl (hb C.2.1 hd)
  obtain ⟨U, v, L', h1, r⟩ := K h' W (A.same W) T' _ vm0 k0 hS (W.size.symm ▸ hk) (Fr.snoc X' hL ha) (O.wr W ha) X' e'
  exact ⟨U, v, L', hs U h1, r⟩
theorem go_stJ (C : Ctx p s m meth c Z y bytes maxL ret) {a : Addr} {cl : Cell} {j : Int32} {x : Int64} (A : Arr Z h a cl .long) (hj : ¬ (j < 0 ∨ cl.slots.size ≤ j.toNatClampNeg)) (hd : decode bytes pc = .ok (.lastore, 1)) (hp : pc + 1 = pc') (ha : n0 ≤ a)
    (K : ∀ h', Wr h h' a j.toNatClampNeg (.long x) → Arr Z h' a (cl.setSlot j.toNatClampNeg (.long x)) .long → Go p l e R s m args below meth c Z n0 Q kc ks h' cs sl (mkF m pc' Ls st)) : Go p l e R s m args below meth c Z n0 Q kc ks h cs sl (mkF m pc Ls (.long x :: .int j :: .ref a :: st)) := fun T L0 vm0 k0 hS hk hL O X eT => by
  subst hp
  obtain ⟨T', h', X', e', W, hs⟩ := stJ X C.1 (zw C hS) eT A hj (g := mkF m pc Ls (.long x :: .int j :: .ref a :: st)) rfl rfl (hb C.2.1 hd)
  obtain ⟨U, v, L', h1, r⟩ := K h' W (A.same W) T' _ vm0 k0 hS (W.size.symm ▸ hk) (Fr.snoc X' hL ha) (O.wr W ha) X' e'
  exact ⟨U, v, L', hs U h1, r⟩
theorem go_stC (C : Ctx p s m meth c Z y bytes maxL ret) {a : Addr} {cl : Cell} {j : Int32} {x : Int32} (A : Arr Z h a cl .char) (hj : ¬ (j < 0 ∨ cl.slots.size ≤ j.toNatClampNeg)) (hd : decode bytes pc = .ok (.castore, 1)) (hp : pc + 1 = pc') (ha : n0 ≤ a)
    (K : ∀ h', Wr h h' a j.toNatClampNeg (.int (nar .char x)) → Arr Z h' a (cl.setSlot j.toNatClampNeg (.int (nar .char x))) .char → Go p l e R s m args below meth c Z n0 Q kc ks h' cs sl (mkF m pc' Ls st)) : Go p l e R s m args below meth c Z n0 Q kc ks h cs sl (mkF m pc Ls (.int x :: .int j :: .ref a :: st)) := fun T L0 vm0 k0 hS hk hL O X eT => by
  subst hp
  obtain ⟨T', h', X', e', W, hs⟩ := stC X C.1 (zw C hS) eT A hj (g := mkF m pc Ls (.int x :: .int j :: .ref a :: st)) rfl rfl (hb C.2.1 hd)
  obtain ⟨U, v, L', h1, r⟩ := K h' W (A.same W) T' _ vm0 k0 hS (W.size.symm ▸ hk) (Fr.snoc X' hL ha) (O.wr W ha) X' e'
  exact ⟨U, v, L', hs U h1, r⟩
theorem go_stB (C : Ctx p s m meth c Z y bytes maxL ret) {a : Addr} {cl : Cell} {j : Int32} {x : Int32} (A : Arr Z h a cl .byte) (hj : ¬ (j < 0 ∨ cl.slots.size ≤ j.toNatClampNeg)) (hd : decode bytes pc = .ok (.bastore, 1)) (hp : pc + 1 = pc') (ha : n0 ≤ a)
    (K : ∀ h', Wr h h' a j.toNatClampNeg (.int (nar .byte x)) → Arr Z h' a (cl.setSlot j.toNatClampNeg (.int (nar .byte x))) .byte → Go p l e R s m args below meth c Z n0 Q kc ks h' cs sl (mkF m pc' Ls st)) : Go p l e R s m args below meth c Z n0 Q kc ks h cs sl (mkF m pc Ls (.int x :: .int j :: .ref a :: st)) := fun T L0 vm0 k0 hS hk hL O X eT => by
  subst hp
  obtain ⟨T', h', X', e', W, hs⟩ := stB X C.1 (zw C hS) eT A hj (g := mkF m pc Ls (.int x :: .int j :: .ref a :: st)) rfl rfl (hb C.2.1 hd)
  obtain ⟨U, v, L', h1, r⟩ := K h' W (A.same W) T' _ vm0 k0 hS (W.size.symm ▸ hk) (Fr.snoc X' hL ha) (O.wr W ha) X' e'
  exact ⟨U, v, L', hs U h1, r⟩
theorem go_stZ (C : Ctx p s m meth c Z y bytes maxL ret) {a : Addr} {cl : Cell} {j : Int32} {x : Int32} (A : Arr Z h a cl .boolean) (hj : ¬ (j < 0 ∨ cl.slots.size ≤ j.toNatClampNeg)) (hd : decode bytes pc = .ok (.bastore, 1)) (hp : pc + 1 = pc') (ha : n0 ≤ a)
    (K : ∀ h', Wr h h' a j.toNatClampNeg (.int (nar .boolean x)) → Arr Z h' a (cl.setSlot j.toNatClampNeg (.int (nar .boolean x))) .boolean → Go p l e R s m args below meth c Z n0 Q kc ks h' cs sl (mkF m pc' Ls st)) : Go p l e R s m args below meth c Z n0 Q kc ks h cs sl (mkF m pc Ls (.int x :: .int j :: .ref a :: st)) := fun T L0 vm0 k0 hS hk hL O X eT => by
  subst hp
  obtain ⟨T', h', X', e', W, hs⟩ := stZ X C.1 (zw C hS) eT A hj (g := mkF m pc Ls (.int x :: .int j :: .ref a :: st)) rfl rfl (hb C.2.1 hd)
  obtain ⟨U, v, L', h1, r⟩ := K h' W (A.same W) T' _ vm0 k0 hS (W.size.symm ▸ hk) (Fr.snoc X' hL ha) (O.wr W ha) X' e'
  exact ⟨U, v, L', hs U h1, r⟩
theorem go_stR (C : Ctx p s m meth c Z y bytes maxL ret) {a : Addr} {cl : Cell} {j : Int32} {ty : FieldType} {w : Value} (A : Arr Z h a cl ty) (hj : ¬ (j < 0 ∨ cl.slots.size ≤ j.toNatClampNeg)) (hty : ty.isReference = true) (F : Sto Z h a w) (hd : decode bytes pc = .ok (.aastore, 1)) (hp : pc + 1 = pc') (ha : n0 ≤ a)
    (K : ∀ h', Wr h h' a j.toNatClampNeg w → Arr Z h' a (cl.setSlot j.toNatClampNeg w) ty → Go p l e R s m args below meth c Z n0 Q kc ks h' cs sl (mkF m pc' Ls st)) : Go p l e R s m args below meth c Z n0 Q kc ks h cs sl (mkF m pc Ls (w :: .int j :: .ref a :: st)) := fun T L0 vm0 k0 hS hk hL O X eT => by
  subst hp
  obtain ⟨T', h', X', e', W, hs⟩ := stR X C.1 (zw C hS) eT A hj hty F (g := mkF m pc Ls (w :: .int j :: .ref a :: st)) rfl rfl (hb C.2.1 hd)
  obtain ⟨U, v, L', h1, r⟩ := K h' W (A.same W) T' _ vm0 k0 hS (W.size.symm ▸ hk) (Fr.snoc X' hL ha) (O.wr W ha) X' e'
  exact ⟨U, v, L', hs U h1, r⟩
theorem go_arraylength (C : Ctx p s m meth c Z y bytes maxL ret) {a : Addr} {cl : Cell} {ty : FieldType} {z : Int32} (A : Arr Z h a cl ty) (hz : cl.slots.size.toInt32 = z) (hd : decode bytes pc = .ok (.arraylength, 1)) (hp : pc + 1 = pc') (K : Go p l e R s m args below meth c Z n0 Q kc ks h cs sl (mkF m pc' Ls (.int z :: st))) : Go p l e R s m args below meth c Z n0 Q kc ks h cs sl (mkF m pc Ls (.ref a :: st)) := by
  subst hp hz
  exact go_stepX K fun T t L vm0 k0 hS X eT k => X.arraylength C.1 (by rw [eT]; exact A.1) (State.isArrayOf_alike (zw C hS).alike A.2.1) (g := mkF m pc Ls (.ref a :: st)) rfl rfl (hb C.2.1 hd) t k
theorem go_aaload (C : Ctx p s m meth c Z y bytes maxL ret) {a : Addr} {cl : Cell} {j : Int32} {v : Value} {ty : FieldType} (A : Arr Z h a cl ty) (hty : ty.isReference = true) (hin : ¬ (j < 0 ∨ cl.slots.size ≤ j.toNatClampNeg)) (hv : cl.slots[j.toNatClampNeg]? = some v) (hd : decode bytes pc = .ok (.aaload, 1)) (hp : pc + 1 = pc') (K : Go p l e R s m args below meth c Z n0 Q kc ks h cs sl (mkF m pc' Ls (v :: st))) : Go p l e R s m args below meth c Z n0 Q kc ks h cs sl (mkF m pc Ls (.int j :: .ref a :: st)) := by
  subst hp
  exact go_stepX K fun T t L vm0 k0 hS X eT k => X.aaload C.1 (by rw [eT]; exact A.1) (State.isArrayOf_alike (zw C hS).alike A.2.1) hty A.2.2 hin hv (g := mkF m pc Ls (.int j :: .ref a :: st)) rfl rfl (hb C.2.1 hd) t k
theorem go_iaload (C : Ctx p s m meth c Z y bytes maxL ret) {a : Addr} {cl : Cell} {j : Int32} {v : Value} (A : Arr Z h a cl .int) (hin : ¬ (j < 0 ∨ cl.slots.size ≤ j.toNatClampNeg)) (hv : cl.slots[j.toNatClampNeg]? = some v) (hd : decode bytes pc = .ok (.iaload, 1)) (hp : pc + 1 = pc') (K : Go p l e R s m args below meth c Z n0 Q kc ks h cs sl (mkF m pc' Ls (v :: st))) : Go p l e R s m args below meth c Z n0 Q kc ks h cs sl (mkF m pc Ls (.int j :: .ref a :: st)) := by
  subst hp
  exact go_stepX K fun T t L vm0 k0 hS X eT k => X.iaload C.1 (by rw [eT]; exact A.1) (State.isArrayOf_alike (zw C hS).alike A.2.1) A.2.2 hin hv (g := mkF m pc Ls (.int j :: .ref a :: st)) rfl rfl (hb C.2.1 hd) t k
theorem go_laload (C : Ctx p s m meth c Z y bytes maxL ret) {a : Addr} {cl : Cell} {j : Int32} {v : Value} (A : Arr Z h a cl .long) (hin : ¬ (j < 0 ∨ cl.slots.size ≤ j.toNatClampNeg)) (hv : cl.slots[j.toNatClampNeg]? = some v) (hd : decode bytes pc = .ok (.laload, 1)) (hp : pc + 1 = pc') (K : Go p l e R s m args below meth c Z n0 Q kc ks h cs sl (mkF m pc' Ls (v :: st))) : Go p l e R s m args below meth c Z n0 Q kc ks h cs sl (mkF m pc Ls (.int j :: .ref a :: st)) := by
  subst hp
  exact go_stepX K fun T t L vm0 k0 hS X eT k => X.laload C.1 (by rw [eT]; exact A.1) (State.isArrayOf_alike (zw C hS).alike A.2.1) A.2.2 hin hv (g := mkF m pc Ls (.int j :: .ref a :: st)) rfl rfl (hb C.2.1 hd) t k
theorem go_caload (C : Ctx p s m meth c Z y bytes maxL ret) {a : Addr} {cl : Cell} {j : Int32} {v : Value} (A : Arr Z h a cl .char) (hin : ¬ (j < 0 ∨ cl.slots.size ≤ j.toNatClampNeg)) (hv : cl.slots[j.toNatClampNeg]? = some v) (hd : decode bytes pc = .ok (.caload, 1)) (hp : pc + 1 = pc') (K : Go p l e R s m args below meth c Z n0 Q kc ks h cs sl (mkF m pc' Ls (v :: st))) : Go p l e R s m args below meth c Z n0 Q kc ks h cs sl (mkF m pc Ls (.int j :: .ref a :: st)) := by
  subst hp
  exact go_stepX K fun T t L vm0 k0 hS X eT k => X.caload C.1 (by rw [eT]; exact A.1) (State.isArrayOf_alike (zw C hS).alike A.2.1) A.2.2 hin hv (g := mkF m pc Ls (.int j :: .ref a :: st)) rfl rfl (hb C.2.1 hd) t k
theorem go_castY (C : Ctx p s m meth c Z y bytes maxL ret) {K0 : String} {index : Nat} {a : Addr} (w : (Jvm.Cond.classLink y.cls index K0).before a0 Z = true) (F : Ins Z h a K0 true) (hd : decode bytes pc = .ok (.checkcast index, 3)) (hp : pc + 3 = pc') (K : Go p l e R s m args below meth c Z n0 Q kc ks h cs sl (mkF m pc' Ls (.ref a :: st))) : Go p l e R s m args below meth c Z n0 Q kc ks h cs sl (mkF m pc Ls (.ref a :: st)) := by
  subst hp
  exact go_stepT K fun T L vm0 k0 hS X eT => castY X C.1 (zw C hS) (ow C hS) w eT F (g := mkF m pc Ls (.ref a :: st)) rfl rfl (hb C.2.1 hd)
theorem go_castNull (C : Ctx p s m meth c Z y bytes maxL ret) {index : Nat} (hd : decode bytes pc = .ok (.checkcast index, 3)) (hp : pc + 3 = pc') (K : Go p l e R s m args below meth c Z n0 Q kc ks h cs sl (mkF m pc' Ls (.null :: st))) : Go p l e R s m args below meth c Z n0 Q kc ks h cs sl (mkF m pc Ls (.null :: st)) := by
  subst hp
  exact go_stepX K fun T t L vm0 k0 hS X eT k => X.checkcastNull C.1 (g := mkF m pc Ls (.null :: st)) rfl rfl (hb C.2.1 hd) t k
theorem go_instY (C : Ctx p s m meth c Z y bytes maxL ret) {K0 : String} {index : Nat} {a : Addr} (w : (Jvm.Cond.classLink y.cls index K0).before a0 Z = true) (F : Ins Z h a K0 true) (hd : decode bytes pc = .ok (.instanceof index, 3)) (hp : pc + 3 = pc') (K : Go p l e R s m args below meth c Z n0 Q kc ks h cs sl (mkF m pc' Ls (.int 1 :: st))) : Go p l e R s m args below meth c Z n0 Q kc ks h cs sl (mkF m pc Ls (.ref a :: st)) := by
  subst hp
  exact go_stepT K fun T L vm0 k0 hS X eT => instY X C.1 (zw C hS) (ow C hS) w eT F (g := mkF m pc Ls (.ref a :: st)) rfl rfl (hb C.2.1 hd)
theorem go_instNo (C : Ctx p s m meth c Z y bytes maxL ret) {K0 K1 : String} {index : Nat} {a : Addr} (w : (Jvm.Cond.classLink y.cls index K0).before a0 Z = true) (E : Exa Z h a K1) (F : ∃ c t, Z.vm.findClass K1 = some c ∧ Z.vm.findClass K0 = some t ∧ Z.vm.assignable c t = false) (hd : decode bytes pc = .ok (.instanceof index, 3)) (hp : pc + 3 = pc') (K : Go p l e R s m args below meth c Z n0 Q kc ks h cs sl (mkF m pc' Ls (.int 0 :: st))) : Go p l e R s m args below meth c Z n0 Q kc ks h cs sl (mkF m pc Ls (.ref a :: st)) := by
  subst hp
  exact go_stepT K fun T L vm0 k0 hS X eT => instNo X C.1 (zw C hS) (ow C hS) w eT E F (g := mkF m pc Ls (.ref a :: st)) rfl rfl (hb C.2.1 hd)
theorem go_initO (C : Ctx p s m meth c Z y bytes maxL ret) {idx : Nat} {a : Addr} (w1 : (Jvm.Cond.methodLink y.cls idx Lib.objectInit).before a0 Z = true) (w2 : (Jvm.Cond.instanceMethod Lib.objectInit).before a0 Z = true) (w3 : (Jvm.Cond.code Lib.objectInit ⟨#[0xb1]⟩ 1 none).before a0 Z = true) (hsz : Ls.size = maxL) (hd : decode bytes pc = .ok (.invokespecial idx, 3)) (hp : pc + 3 = pc') (hf : 1 ≤ R.frames) (hl : (st.map fun v => v.category).sum + 12 ≤ R.locals) (K : Go p l e R s m args below meth c Z n0 Q kc ks h cs sl (mkF m pc' Ls st)) : Go p l e R s m args below meth c Z n0 Q kc ks h cs sl (mkF m pc Ls (.ref a :: st)) := by
  subst hp
  exact go_stepT K fun T L vm0 k0 hS X eT => initO X C.1 (zw C hS) (ow C hS) w1 w2 w3 eT (g := mkF m pc Ls (.ref a :: st)) rfl (hsz.trans C.2.2.1.symm) rfl (hb C.2.1 hd) hf (W := (st.map fun v => v.category).sum) (by show 2 * 0 + _ ≤ _; omega) hl
theorem go_ret0 (C : Ctx p s m meth c Z y bytes maxL none) (hd : decode bytes pc = .ok (.return_, 1)) (hc : cs ≤ kc) (hs : sl ≤ ks) (q : Q none h) : Go p l e R s m args below meth c Z n0 Q kc ks h cs sl (mkF m pc Ls []) := fun T L vm0 k0 hS hk hL O X eT => by
  obtain ⟨fs, hr, hrun, hended, hW, hsame⟩ := X.leave (v := none) (fun _ => rfl) C.2.2.2.2.1
  subst eT
  exact ⟨_, _, L, X.returnOut C.1 C.2.2.2.1 (hb C.2.1 hd) hr, hrun, hended, hL, O, hS.trans (hW.since _) hk, (hsame.setVm s.vm).mono hc hs, q⟩
theorem go_retI (C : Ctx p s m meth c Z y bytes maxL (some .int)) {z : Int32} (hd : decode bytes pc = .ok (.ireturn, 1)) (hc : cs ≤ kc) (hs : sl ≤ ks) (q : Q (some (.int z)) h) : Go p l e R s m args below meth c Z n0 Q kc ks h cs sl (mkF m pc Ls (.int z :: st)) := fun T L vm0 k0 hS hk hL O X eT => by
  obtain ⟨fs, hr, hrun, hended, hW, hsame⟩ := X.leave (v := some (.int z)) (fun h => by rw [C.2.2.2.1] at h; cases h) C.2.2.2.2.1
  subst eT
  exact ⟨_, _, L, retOut X C.1 C.2.2.2.1 rfl (Or.inl ⟨rfl, Or.inl rfl, _, rfl⟩) (hb C.2.1 hd) hr, hrun, hended, hL, O, hS.trans (hW.since _) hk, (hsame.setVm s.vm).mono hc hs, q⟩
theorem go_retL (C : Ctx p s m meth c Z y bytes maxL (some .long)) {z : Int64} (hd : decode bytes pc = .ok (.lreturn, 1)) (hc : cs ≤ kc) (hs : sl ≤ ks) (q : Q (some (.long z)) h) : Go p l e R s m args below meth c Z n0 Q kc ks h cs sl (mkF m pc Ls (.long z :: st)) := fun T L vm0 k0 hS hk hL O X eT => by
  obtain ⟨fs, hr, hrun, hended, hW, hsame⟩ := X.leave (v := some (.long z)) (fun h => by rw [C.2.2.2.1] at h; cases h) C.2.2.2.2.1
  subst eT
  exact ⟨_, _, L, retOut X C.1 C.2.2.2.1 rfl (Or.inr (Or.inl ⟨rfl, rfl, _, rfl⟩)) (hb C.2.1 hd) hr, hrun, hended, hL, O, hS.trans (hW.since _) hk, (hsame.setVm s.vm).mono hc hs, q⟩
theorem go_retN {t : FieldType} (C : Ctx p s m meth c Z y bytes maxL (some t)) {z z' : Int32} (ht : t = .boolean ∨ t = .byte ∨ t = .char ∨ t = .short) (hz : nar t z = z') (hd : decode bytes pc = .ok (.ireturn, 1)) (hc : cs ≤ kc) (hs : sl ≤ ks) (q : Q (some (.int z')) h) : Go p l e R s m args below meth c Z n0 Q kc ks h cs sl (mkF m pc Ls (.int z :: st)) := fun T L vm0 k0 hS hk hL O X eT => by
  subst hz
  obtain ⟨fs, hr, hrun, hended, hW, hsame⟩ := X.leave (v := some (.int (nar t z))) (fun h => by rw [C.2.2.2.1] at h; cases h) C.2.2.2.2.1
  subst eT
  exact ⟨_, _, L, retN X C.1 C.2.2.2.1 ht (hb C.2.1 hd) hr, hrun, hended, hL, O, hS.trans (hW.since _) hk, (hsame.setVm s.vm).mono hc hs, q⟩
theorem go_retA {t : FieldType} (C : Ctx p s m meth c Z y bytes maxL (some t)) {w : Value} (ht : t.isReference = true) (hw : w.isRef = true) (hd : decode bytes pc = .ok (.areturn, 1)) (hc : cs ≤ kc) (hs : sl ≤ ks) (q : Q (some w) h) : Go p l e R s m args below meth c Z n0 Q kc ks h cs sl (mkF m pc Ls (w :: st)) := fun T L vm0 k0 hS hk hL O X eT => by
  obtain ⟨fs, hr, hrun, hended, hW, hsame⟩ := X.leave (v := some w) (fun h => by rw [C.2.2.2.1] at h; cases h) C.2.2.2.2.1
  subst eT
  exact ⟨_, _, L, retOut X C.1 C.2.2.2.1 (by cases t <;> first | (cases ht; done) | (cases w <;> first | rfl | cases hw)) (Or.inr (Or.inr (Or.inr (Or.inr ⟨rfl, ht, hw⟩)))) (hb C.2.1 hd) hr, hrun, hended, hL, O, hS.trans (hW.since _) hk, (hsame.setVm s.vm).mono hc hs, q⟩
theorem go_callS (C : Ctx p s m meth c Z y bytes maxL ret) {y' : MethodName} {bytes' : ByteArray} {maxL' : Nat} {ret' : Option FieldType} {rm' : Room} {as' : Array Value} {Q' : Option Value → Heap → Prop} {index W : Nat} {argsL rest : List Value} {ps : List FieldType} {r' : Option FieldType} (w1 : (Jvm.Cond.methodLink y.cls index y').before a0 Z = true) (w2 : (Jvm.Cond.static y').before a0 Z = true) (M : Met l Z n0 y' bytes' maxL' ret' [] rm' as' h Q') (wc : (Jvm.Cond.code y' bytes' maxL' ret').before a0 Z = true) (wz : (Jvm.Cond.initialized y'.cls).before a0 Z = true) (hy : y'.cls ≠ "java/lang/invoke/MethodHandle" ∧ y'.cls ≠ "java/lang/invoke/VarHandle") (hf : rm'.frames + 1 ≤ R.frames) (hW : (rest.map fun v => v.category).sum ≤ W) (hl : W + (maxL' + 11) + rm'.locals ≤ R.locals) (hc : cs + rm'.cells ≤ R.cells) (hs : sl + rm'.slots ≤ R.slots) (hsz : Ls.size = maxL)  (hlen : parseMethodDescriptor y'.desc = some ⟨ps, r'⟩) (hal : argsL.length = ps.length) (hst : st = argsL.reverse ++ rest) (has : as' = argsL.toArray) (hd : decode bytes pc = .ok (.invokestatic index, 3)) (hp : pc + 3 = pc')
    (K : ∀ v h', Q' v h' → Go p l e R s m args below meth c Z n0 Q kc ks h' (cs + rm'.cells) (sl + rm'.slots) (mkF m pc' Ls (v.toList ++ rest))) : Go p l e R s m args below meth c Z n0 Q kc ks h cs sl (mkF m pc Ls st) := fun T L0 vm0 k0 hS hk hL O X eT => by
  subst hp has hst
  obtain ⟨v, _, ⟨T1, L1, k1, n1⟩, -, X1, hS1, hg1, ⟨Lc1, q1, l1, y1, z1⟩, s1⟩ := callSS X C.1 (y := y') (ow C hS) (mvT (zw C hS) w1) (mvT (zw C hS) w2) (mvT (zw C hS) wz) (mvT (zw C hS) wc) hy (backOfS (W := W) (R := R) (p := p) (e := e) (below := below) (args := args) (len := 3) (Q := fun v h L => Fr n0 L ∧ Old Z n0 h ∧ Q' v h) M (zw C hS) wc wz hf hl) (g := mkF m pc Ls (argsL.reverse ++ rest)) rfl (hsz.trans C.2.2.1.symm) (argsL := argsL) (rest := rest) (lenOf hlen hal) rfl (by show 2 * 0 + _ ≤ _; omega) (hb C.2.1 hd) (fun _ _ => ⟨rfl, eT, hc, hs⟩)
  dsimp only [Pt.U, Pt.locs, Pt.cells, Pt.slots] at X1 l1 y1 z1 s1 q1
  subst l1 y1 z1
  obtain ⟨N, O', q⟩ := q1
  obtain ⟨U, w, L', h1, r⟩ := K v _ q T1 _ T1.vm T1.heap.size (hS.trans hS1 (Nat.le_trans (eT.symm ▸ hk) hg1)) (Nat.le_refl _) (Fr.app hL N) O' X1 rfl
  exact ⟨U, w, L', s1.trans h1, r⟩
theorem go_callC (C : Ctx p s m meth c Z y bytes maxL ret) {y' : MethodName} {bytes' : ByteArray} {maxL' : Nat} {ret' : Option FieldType} {rm' : Room} {as' : Array Value} {Q' : Option Value → Heap → Prop} {index W : Nat} {argsL rest : List Value} {ps : List FieldType} {r' : Option FieldType} (w1 : (Jvm.Cond.methodLink y.cls index y').before a0 Z = true) (w2 : (Jvm.Cond.instanceMethod y').before a0 Z = true) (hin : y'.name = "<init>") (hr0 : ret' = none) (M : Met l Z n0 y' bytes' maxL' ret' [] rm' as' h Q') (wc : (Jvm.Cond.code y' bytes' maxL' ret').before a0 Z = true) (wz : (Jvm.Cond.initialized y'.cls).before a0 Z = true) (hy : y'.cls ≠ "java/lang/invoke/MethodHandle" ∧ y'.cls ≠ "java/lang/invoke/VarHandle") (hf : rm'.frames + 1 ≤ R.frames) (hW : (rest.map fun v => v.category).sum ≤ W) (hl : W + (maxL' + 11) + rm'.locals ≤ R.locals) (hc : cs + rm'.cells ≤ R.cells) (hs : sl + rm'.slots ≤ R.slots) (hsz : Ls.size = maxL) {a : Addr} (hlen : parseMethodDescriptor y'.desc = some ⟨ps, r'⟩) (hal : argsL.length = ps.length) (hst : st = argsL.reverse ++ .ref a :: rest) (has : as' = (.ref a :: argsL).toArray) (hd : decode bytes pc = .ok (.invokespecial index, 3)) (hp : pc + 3 = pc')
    (K : ∀ v h', Q' v h' → Go p l e R s m args below meth c Z n0 Q kc ks h' (cs + rm'.cells) (sl + rm'.slots) (mkF m pc' Ls (v.toList ++ rest))) : Go p l e R s m args below meth c Z n0 Q kc ks h cs sl (mkF m pc Ls st) := fun T L0 vm0 k0 hS hk hL O X eT => by
  subst hp has hst
  subst hr0
  obtain ⟨v, _, ⟨T1, L1, k1, n1⟩, -, X1, hS1, hg1, ⟨Lc1, q1, l1, y1, z1⟩, s1⟩ := X.specialBackS C.1 (y := y') hin (ow C hS) (mvT (zw C hS) w1) (mvT (zw C hS) w2) (mvT (zw C hS) wc) hy (backOfS (W := W) (R := R) (p := p) (e := e) (below := below) (args := args) (len := 3) (Q := fun v h L => Fr n0 L ∧ Old Z n0 h ∧ Q' v h) M (zw C hS) wc wz hf hl) (g := mkF m pc Ls (argsL.reverse ++ .ref a :: rest)) rfl (hsz.trans C.2.2.1.symm) (Steps.refl _) (a := a) (argsL := argsL) (rest := rest) (lenOf hlen hal) rfl (by show 2 * 0 + _ ≤ _; omega) (hb C.2.1 hd) (fun _ _ => ⟨rfl, eT, hc, hs⟩)
  dsimp only [Pt.U, Pt.locs, Pt.cells, Pt.slots] at X1 l1 y1 z1 s1 q1
  subst l1 y1 z1
  obtain ⟨N, O', q⟩ := q1
  obtain ⟨U, w, L', h1, r⟩ := K v _ q T1 _ T1.vm T1.heap.size (hS.trans hS1 (Nat.le_trans (eT.symm ▸ hk) hg1)) (Nat.le_refl _) (Fr.app hL N) O' X1 rfl
  exact ⟨U, w, L', s1.trans h1, r⟩
theorem go_callV (C : Ctx p s m meth c Z y bytes maxL ret) {y' : MethodName} {bytes' : ByteArray} {maxL' : Nat} {ret' : Option FieldType} {rm' : Room} {as' : Array Value} {Q' : Option Value → Heap → Prop} {index W : Nat} {argsL rest : List Value} {ps : List FieldType} {r' : Option FieldType} (w1 : (Jvm.Cond.methodLink y.cls index y').before a0 Z = true) (w2 : (Jvm.Cond.declares y').before a0 Z = true) {K0 : String} (w3 : (Jvm.Cond.selects K0 y' y').before a0 Z = true) (w4 : (Jvm.Cond.instanceMethod y').before a0 Z = true) (M : Met l Z n0 y' bytes' maxL' ret' [] rm' as' h Q') (wc : (Jvm.Cond.code y' bytes' maxL' ret').before a0 Z = true) (wz : (Jvm.Cond.initialized y'.cls).before a0 Z = true) (hy : y'.cls ≠ "java/lang/invoke/MethodHandle" ∧ y'.cls ≠ "java/lang/invoke/VarHandle") (hf : rm'.frames + 1 ≤ R.frames) (hW : (rest.map fun v => v.category).sum ≤ W) (hl : W + (maxL' + 11) + rm'.locals ≤ R.locals) (hc : cs + rm'.cells ≤ R.cells) (hs : sl + rm'.slots ≤ R.slots) (hsz : Ls.size = maxL) {a : Addr} (E : Exa Z h a K0) (hlen : parseMethodDescriptor y'.desc = some ⟨ps, r'⟩) (hal : argsL.length = ps.length) (hst : st = argsL.reverse ++ .ref a :: rest) (has : as' = (.ref a :: argsL).toArray) (hd : decode bytes pc = .ok (.invokevirtual index, 3)) (hp : pc + 3 = pc')
    (K : ∀ v h', Q' v h' → Go p l e R s m args below meth c Z n0 Q kc ks h' (cs + rm'.cells) (sl + rm'.slots) (mkF m pc' Ls (v.toList ++ rest))) : Go p l e R s m args below meth c Z n0 Q kc ks h cs sl (mkF m pc Ls st) := fun T L0 vm0 k0 hS hk hL O X eT => by
  subst hp has hst
  obtain ⟨cq, kq, qa, qb, qc⟩ := isOf (zw C hS) eT E
  obtain ⟨v, _, ⟨T1, L1, k1, n1⟩, -, X1, hS1, hg1, ⟨Lc1, q1, l1, y1, z1⟩, s1⟩ := X.virtualBackS C.1 (y := y') (z := y') (ow C hS) (mvT (zw C hS) w1) (mvT (zw C hS) w2) (notFace_of_selects (args := #[]) (mvT (zw C hS) w3)) (mvT (zw C hS) w3) (mvT (zw C hS) w4) hy (backOfS (W := W) (R := R) (p := p) (e := e) (below := below) (args := args) (len := 3) (Q := fun v h L => Fr n0 L ∧ Old Z n0 h ∧ Q' v h) M (zw C hS) wc wz hf hl) qa qc (g := mkF m pc Ls (argsL.reverse ++ .ref a :: rest)) rfl (hsz.trans C.2.2.1.symm) (Steps.refl _) (argsL := argsL) (rest := rest) (lenOf hlen hal) rfl (by show 2 * 0 + _ ≤ _; omega) (hb C.2.1 hd) (fun _ _ => ⟨rfl, eT, hc, hs⟩)
  dsimp only [Pt.U, Pt.locs, Pt.cells, Pt.slots] at X1 l1 y1 z1 s1 q1
  subst l1 y1 z1
  obtain ⟨N, O', q⟩ := q1
  obtain ⟨U, w, L', h1, r⟩ := K v _ q T1 _ T1.vm T1.heap.size (hS.trans hS1 (Nat.le_trans (eT.symm ▸ hk) hg1)) (Nat.le_refl _) (Fr.app hL N) O' X1 rfl
  exact ⟨U, w, L', s1.trans h1, r⟩
theorem go_callU (C : Ctx p s m meth c Z y bytes maxL ret) {y' : MethodName} {bytes' : ByteArray} {maxL' : Nat} {ret' : Option FieldType} {rm' : Room} {as' : Array Value} {Q' : Option Value → Heap → Prop} {index W : Nat} {argsL rest : List Value} {ps : List FieldType} {r' : Option FieldType} {K1 : String} (w1 : (Jvm.Cond.methodLink y.cls index ⟨K1, y'.name, y'.desc⟩).before a0 Z = true) (w2 : (Jvm.Cond.sameMethod K1 y'.cls y'.name y'.desc).before a0 Z = true) (w3 : (Jvm.Cond.declares y').before a0 Z = true) {K0 : String} (w4 : (Jvm.Cond.selects K0 ⟨K1, y'.name, y'.desc⟩ y').before a0 Z = true) (w5 : (Jvm.Cond.instanceMethod y').before a0 Z = true) (M : Met l Z n0 y' bytes' maxL' ret' [] rm' as' h Q') (wc : (Jvm.Cond.code y' bytes' maxL' ret').before a0 Z = true) (wz : (Jvm.Cond.initialized y'.cls).before a0 Z = true) (hy : y'.cls ≠ "java/lang/invoke/MethodHandle" ∧ y'.cls ≠ "java/lang/invoke/VarHandle") (hf : rm'.frames + 1 ≤ R.frames) (hW : (rest.map fun v => v.category).sum ≤ W) (hl : W + (maxL' + 11) + rm'.locals ≤ R.locals) (hc : cs + rm'.cells ≤ R.cells) (hs : sl + rm'.slots ≤ R.slots) (hsz : Ls.size = maxL) {a : Addr} (E : Exa Z h a K0) (hlen : parseMethodDescriptor y'.desc = some ⟨ps, r'⟩) (hal : argsL.length = ps.length) (hst : st = argsL.reverse ++ .ref a :: rest) (has : as' = (.ref a :: argsL).toArray) (hd : decode bytes pc = .ok (.invokevirtual index, 3)) (hp : pc + 3 = pc')
    (K : ∀ v h', Q' v h' → Go p l e R s m args below meth c Z n0 Q kc ks h' (cs + rm'.cells) (sl + rm'.slots) (mkF m pc' Ls (v.toList ++ rest))) : Go p l e R s m args below meth c Z n0 Q kc ks h cs sl (mkF m pc Ls st) := fun T L0 vm0 k0 hS hk hL O X eT => by
  subst hp has hst
  obtain ⟨cq, kq, qa, qb, qc⟩ := isOf (zw C hS) eT E
  obtain ⟨v, _, ⟨T1, L1, k1, n1⟩, -, X1, hS1, hg1, ⟨Lc1, q1, l1, y1, z1⟩, s1⟩ := X.virtualBackUpS C.1 (x := ⟨K1, y'.name, y'.desc⟩) (y := y') (owner := y'.cls) (ow C hS) (mvT (zw C hS) w1) (mvT (zw C hS) w2) (mvT (zw C hS) w3) hy (mvT (zw C hS) w4) (mvT (zw C hS) w5) (backOfS (W := W) (R := R) (p := p) (e := e) (below := below) (args := args) (len := 3) (Q := fun v h L => Fr n0 L ∧ Old Z n0 h ∧ Q' v h) M (zw C hS) wc wz hf hl) qa qc (g := mkF m pc Ls (argsL.reverse ++ .ref a :: rest)) rfl (hsz.trans C.2.2.1.symm) (Steps.refl _) (argsL := argsL) (rest := rest) (lenOf hlen hal) rfl (by show 2 * 0 + _ ≤ _; omega) (hb C.2.1 hd) (fun _ _ => ⟨rfl, eT, hc, hs⟩)
  dsimp only [Pt.U, Pt.locs, Pt.cells, Pt.slots] at X1 l1 y1 z1 s1 q1
  subst l1 y1 z1
  obtain ⟨N, O', q⟩ := q1
  obtain ⟨U, w, L', h1, r⟩ := K v _ q T1 _ T1.vm T1.heap.size (hS.trans hS1 (Nat.le_trans (eT.symm ▸ hk) hg1)) (Nat.le_refl _) (Fr.app hL N) O' X1 rfl
  exact ⟨U, w, L', s1.trans h1, r⟩
theorem go_callI (C : Ctx p s m meth c Z y bytes maxL ret) {y' : MethodName} {bytes' : ByteArray} {maxL' : Nat} {ret' : Option FieldType} {rm' : Room} {as' : Array Value} {Q' : Option Value → Heap → Prop} {index W : Nat} {argsL rest : List Value} {ps : List FieldType} {r' : Option FieldType} {xi : MethodName} {count : Nat} (w1 : (Jvm.Cond.methodLink y.cls index xi).before a0 Z = true) (w2 : (Jvm.Cond.declares xi).before a0 Z = true) (w3 : (Jvm.Cond.interfaceMethod xi.cls xi.cls xi.name xi.desc).before a0 Z = true) {K0 : String} (w4 : (Jvm.Cond.selects K0 xi y').before a0 Z = true) (w5 : (Jvm.Cond.instanceMethod y').before a0 Z = true) (w6 : (Jvm.Cond.publicMethod y').before a0 Z = true) (w7 : (Jvm.Cond.unhidden K0 xi.name xi.desc).before a0 Z = true) (w8 : (Jvm.Cond.castable K0 xi.cls).before a0 Z = true) (hfa : (Jvm.Cond.interfaceMethod xi.cls xi.cls xi.name xi.desc).faceAtom = true) (hyi : xi.cls ≠ "java/lang/invoke/MethodHandle" ∧ xi.cls ≠ "java/lang/invoke/VarHandle") (M : Met l Z n0 y' bytes' maxL' ret' [] rm' as' h Q') (wc : (Jvm.Cond.code y' bytes' maxL' ret').before a0 Z = true) (wz : (Jvm.Cond.initialized y'.cls).before a0 Z = true) (hy : y'.cls ≠ "java/lang/invoke/MethodHandle" ∧ y'.cls ≠ "java/lang/invoke/VarHandle") (hf : rm'.frames + 1 ≤ R.frames) (hW : (rest.map fun v => v.category).sum ≤ W) (hl : W + (maxL' + 11) + rm'.locals ≤ R.locals) (hc : cs + rm'.cells ≤ R.cells) (hs : sl + rm'.slots ≤ R.slots) (hsz : Ls.size = maxL) {a : Addr} (E : Exa Z h a K0) (hlen : parseMethodDescriptor xi.desc = some ⟨ps, r'⟩) (hal : argsL.length = ps.length) (hst : st = argsL.reverse ++ .ref a :: rest) (has : as' = (.ref a :: argsL).toArray) (hd : decode bytes pc = .ok (.invokeinterface index count, 5)) (hp : pc + 5 = pc')
    (K : ∀ v h', Q' v h' → Go p l e R s m args below meth c Z n0 Q kc ks h' (cs + rm'.cells) (sl + rm'.slots) (mkF m pc' Ls (v.toList ++ rest))) : Go p l e R s m args below meth c Z n0 Q kc ks h cs sl (mkF m pc Ls st) := fun T L0 vm0 k0 hS hk hL O X eT => by
  subst hp has hst
  obtain ⟨cq, kq, qa, qb, qc⟩ := isOf (zw C hS) eT E
  obtain ⟨v, _, ⟨T1, L1, k1, n1⟩, -, X1, hS1, hg1, ⟨Lc1, q1, l1, y1, z1⟩, s1⟩ := X.interfaceBackS C.1 (xi := xi) (y := y') (ow C hS) (mvT (zw C hS) w1) (mvT (zw C hS) w2) (mvT (zw C hS) w3 (by simp [Cond.onTables, Cond.keepsFace, Cond.keeps, Cond.steady, hfa])) (mvT (zw C hS) w4) (mvT (zw C hS) w5) (mvT (zw C hS) w6) (mvT (zw C hS) w7) (mvT (zw C hS) w8) hyi (backOfS (W := W) (R := R) (p := p) (e := e) (below := below) (args := args) (len := 5) (Q := fun v h L => Fr n0 L ∧ Old Z n0 h ∧ Q' v h) M (zw C hS) wc wz hf hl) qa qb qc (g := mkF m pc Ls (argsL.reverse ++ .ref a :: rest)) rfl (hsz.trans C.2.2.1.symm) (Steps.refl _) (argsL := argsL) (rest := rest) (lenOf hlen hal) rfl (by show 2 * 0 + _ ≤ _; omega) (hb C.2.1 hd) (fun _ _ => ⟨rfl, eT, hc, hs⟩)
  dsimp only [Pt.U, Pt.locs, Pt.cells, Pt.slots] at X1 l1 y1 z1 s1 q1
  subst l1 y1 z1
  obtain ⟨N, O', q⟩ := q1
  obtain ⟨U, w, L', h1, r⟩ := K v _ q T1 _ T1.vm T1.heap.size (hS.trans hS1 (Nat.le_trans (eT.symm ▸ hk) hg1)) (Nat.le_refl _) (Fr.app hL N) O' X1 rfl
  exact ⟨U, w, L', s1.trans h1, r⟩
def Ar (Z : State) (h : Heap) (a : Addr) (ty : FieldType) (k : ClassId) (vs : List Value) : Prop := ∃ cl : Cell, Arr Z h a cl ty ∧ cl.cls = k ∧ cl.slots.toList = vs
theorem Ar.ext {a : Addr} {ty : FieldType} {k : ClassId} {vs : List Value} (F : Ar Z h a ty k vs) (E : Ext h h') : Ar Z h' a ty k vs := by obtain ⟨cl, A, r⟩ := F; exact ⟨cl, A.ext E, r⟩
theorem Ar.other {a b : Addr} {sl : Nat} {v : Value} {ty : FieldType} {k : ClassId} {vs : List Value} (F : Ar Z h b ty k vs) (W : Wr h h' a sl v) (q : b ≠ a) : Ar Z h' b ty k vs := by obtain ⟨cl, A, r⟩ := F; exact ⟨cl, A.other W q, r⟩
theorem Ar.keep {a : Addr} {ty : FieldType} {k : ClassId} {vs : List Value} {ws : List Addr} (F : Ar Z h a ty k vs) (K : Keep h h' ws) (q : a ∉ ws) : Ar Z h' a ty k vs := by obtain ⟨cl, A, r⟩ := F; exact ⟨cl, ⟨K.2.1 a cl A.1 q, A.2⟩, r⟩
theorem Ar.lt {a : Addr} {ty : FieldType} {k : ClassId} {vs : List Value} (F : Ar Z h a ty k vs) : a < h.size := by obtain ⟨cl, A, r⟩ := F; exact A.lt
theorem Ar.new {a : Addr} {ty : FieldType} {k : ClassId} {n : Int32} {len : Nat} (A : Arr Z h a (newA k ty n) ty) (hn : n.toNatClampNeg = len) : Ar Z h a ty k (List.replicate len (defaultValue ty)) := ⟨_, A, rfl, by subst hn; simp [newA]⟩
theorem Ar.inb {cl : Cell} {vs : List Value} {j : Int32} {i : Nat} (hn : ¬ j < 0) (hj : j.toNatClampNeg = i) (e0 : cl.slots.toList = vs) (hi : i < vs.length) : ¬ (j < 0 ∨ cl.slots.size ≤ j.toNatClampNeg) := by
  subst e0 hj
  rw [Array.length_toList] at hi
  exact fun q => q.elim hn (fun q => absurd hi (Nat.not_lt.mpr q))
theorem Ar.upd {a : Addr} {ty : FieldType} {cl : Cell} {vs : List Value} {j : Int32} {i : Nat} {v : Value} (A : Arr Z h a (cl.setSlot j.toNatClampNeg v) ty) (hj : j.toNatClampNeg = i) (e0 : cl.slots.toList = vs) : Ar Z h a ty cl.cls (vs.set i v) := ⟨_, A, rfl, by subst hj e0; simp [Cell.setSlot]⟩
theorem go_newPA (C : Ctx p s m meth c Z y bytes maxL ret) {aty : ArrayType} {n : Int32} {len : Nat} {ty : FieldType} (hty : newarray.typeOf aty = ty) (w : (Jvm.Cond.arrayClass ty).before a0 Z = true) (hd : decode bytes pc = .ok (.newarray aty, 2)) (hp : pc + 2 = pc') (hn : ¬ n < 0) (hlen : n.toNatClampNeg = len) (hb' : len * 8 ≤ 536870912) (hc : cs + 1 ≤ R.cells) (hl : sl + len ≤ R.slots)
    (K : ∀ h' a k, a = h.size → n0 ≤ a → Ext h h' → Ar Z h' a ty k (List.replicate len (defaultValue ty)) → Go p l e R s m args below meth c Z n0 Q kc ks h' (cs + 1) (sl + len) (mkF m pc' Ls (.ref a :: st))) : Go p l e R s m args below meth c Z n0 Q kc ks h cs sl (mkF m pc Ls (.int n :: st)) := by
  subst hty
  exact go_newP C w hd hp hn (Nat.le_of_eq hlen) hb' hc hl fun h' a k e1 e2 E A => K h' a k e1 e2 E (Ar.new A hlen)
theorem go_newRA (C : Ctx p s m meth c Z y bytes maxL ret) {K0 : String} {index : Nat} {n : Int32} {len : Nat} (w1 : (Jvm.Cond.classLink y.cls index K0).before a0 Z = true) (w2 : (Jvm.Cond.arrayOver (.object K0)).before a0 Z = true) (hd : decode bytes pc = .ok (.anewarray index, 3)) (hp : pc + 3 = pc') (hn : ¬ n < 0) (hlen : n.toNatClampNeg = len) (hb' : len * 8 ≤ 536870912) (hc : cs + 1 ≤ R.cells) (hl : sl + len ≤ R.slots)
    (K : ∀ h' a k, a = h.size → n0 ≤ a → Ext h h' → Ar Z h' a (.object K0) k (List.replicate len .null) → Ovr Z k K0 → Go p l e R s m args below meth c Z n0 Q kc ks h' (cs + 1) (sl + len) (mkF m pc' Ls (.ref a :: st))) : Go p l e R s m args below meth c Z n0 Q kc ks h cs sl (mkF m pc Ls (.int n :: st)) :=
  go_newR C w1 w2 hd hp hn (Nat.le_of_eq hlen) hb' hc hl fun h' a k e1 e2 E A O => K h' a k e1 e2 E (Ar.new A hlen) O
theorem go_iaset (C : Ctx p s m meth c Z y bytes maxL ret) {a : Addr} {k : ClassId} {vs vs' : List Value} {j : Int32} {i : Nat} {x : Int32} (A : Ar Z h a .int k vs) (hn : ¬ j < 0) (hj : j.toNatClampNeg = i) (hi : i < vs.length) (hvs : vs.set i (.int x) = vs') (hd : decode bytes pc = .ok (.iastore, 1)) (hp : pc + 1 = pc') (ha : n0 ≤ a)
    (K : ∀ h', Wr h h' a i (.int x) → Ar Z h' a .int k vs' → Go p l e R s m args below meth c Z n0 Q kc ks h' cs sl (mkF m pc' Ls st)) : Go p l e R s m args below meth c Z n0 Q kc ks h cs sl (mkF m pc Ls (.int x :: .int j :: .ref a :: st)) := by
  obtain ⟨cl, A, rfl, e0⟩ := A
  subst hvs
  exact go_stI C A (Ar.inb hn hj e0 hi) hd hp ha fun h' W A' => K h' (hj ▸ W) (Ar.upd A' hj e0)
theorem go_laset (C : Ctx p s m meth c Z y bytes maxL ret) {a : Addr} {k : ClassId} {vs vs' : List Value} {j : Int32} {i : Nat} {x : Int64} (A : Ar Z h a .long k vs) (hn : ¬ j < 0) (hj : j.toNatClampNeg = i) (hi : i < vs.length) (hvs : vs.set i (.long x) = vs') (hd : decode bytes pc = .ok (.lastore, 1)) (hp : pc + 1 = pc') (ha : n0 ≤ a)
    (K : ∀ h', Wr h h' a i (.long x) → Ar Z h' a .long k vs' → Go p l e R s m args below meth c Z n0 Q kc ks h' cs sl (mkF m pc' Ls st)) : Go p l e R s m args below meth c Z n0 Q kc ks h cs sl (mkF m pc Ls (.long x :: .int j :: .ref a :: st)) := by
  obtain ⟨cl, A, rfl, e0⟩ := A
  subst hvs
  exact go_stJ C A (Ar.inb hn hj e0 hi) hd hp ha fun h' W A' => K h' (hj ▸ W) (Ar.upd A' hj e0)
theorem go_caset (C : Ctx p s m meth c Z y bytes maxL ret) {a : Addr} {k : ClassId} {vs vs' : List Value} {j : Int32} {i : Nat} {x : Int32} (A : Ar Z h a .char k vs) (hn : ¬ j < 0) (hj : j.toNatClampNeg = i) (hi : i < vs.length) (hvs : vs.set i (.int (nar .char x)) = vs') (hd : decode bytes pc = .ok (.castore, 1)) (hp : pc + 1 = pc') (ha : n0 ≤ a)
    (K : ∀ h', Wr h h' a i (.int (nar .char x)) → Ar Z h' a .char k vs' → Go p l e R s m args below meth c Z n0 Q kc ks h' cs sl (mkF m pc' Ls st)) : Go p l e R s m args below meth c Z n0 Q kc ks h cs sl (mkF m pc Ls (.int x :: .int j :: .ref a :: st)) := by
  obtain ⟨cl, A, rfl, e0⟩ := A
  subst hvs
  exact go_stC C A (Ar.inb hn hj e0 hi) hd hp ha fun h' W A' => K h' (hj ▸ W) (Ar.upd A' hj e0)
theorem go_raset (C : Ctx p s m meth c Z y bytes maxL ret) {a b : Addr} {k : ClassId} {K0 : String} {vs vs' : List Value} {j : Int32} {i : Nat} (A : Ar Z h a (.object K0) k vs) (V : Ovr Z k K0) (I : Ins Z h b K0 true) (hn : ¬ j < 0) (hj : j.toNatClampNeg = i) (hi : i < vs.length) (hvs : vs.set i (.ref b) = vs') (hd : decode bytes pc = .ok (.aastore, 1)) (hp : pc + 1 = pc') (ha : n0 ≤ a)
    (K : ∀ h', Wr h h' a i (.ref b) → Ar Z h' a (.object K0) k vs' → Go p l e R s m args below meth c Z n0 Q kc ks h' cs sl (mkF m pc' Ls st)) : Go p l e R s m args below meth c Z n0 Q kc ks h cs sl (mkF m pc Ls (.ref b :: .int j :: .ref a :: st)) := by
  obtain ⟨cl, A, rfl, e0⟩ := A
  subst hvs
  exact go_stR C A (Ar.inb hn hj e0 hi) rfl (Sto.of A V I) hd hp ha fun h' W A' => K h' (hj ▸ W) (Ar.upd A' hj e0)
theorem go_raget (C : Ctx p s m meth c Z y bytes maxL ret) {a : Addr} {k : ClassId} {vs : List Value} {ty : FieldType} {j : Int32} {i : Nat} {v : Value} (A : Ar Z h a ty k vs) (hty : ty.isReference = true) (hn : ¬ j < 0) (hj : j.toNatClampNeg = i) (hv : vs[i]? = some v) (hd : decode bytes pc = .ok (.aaload, 1)) (hp : pc + 1 = pc') (K : Go p l e R s m args below meth c Z n0 Q kc ks h cs sl (mkF m pc' Ls (v :: st))) : Go p l e R s m args below meth c Z n0 Q kc ks h cs sl (mkF m pc Ls (.int j :: .ref a :: st)) := by
  obtain ⟨cl, A, rfl, e0⟩ := A
  exact go_aaload C A hty (Ar.inb hn hj e0 (List.getElem?_eq_some_iff.mp hv).1) (by subst e0 hj; rw [← hv, Array.getElem?_toList]) hd hp K
theorem go_alen (C : Ctx p s m meth c Z y bytes maxL ret) {a : Addr} {k : ClassId} {vs : List Value} {ty : FieldType} {z : Int32} (A : Ar Z h a ty k vs) (hz : vs.length.toInt32 = z) (hd : decode bytes pc = .ok (.arraylength, 1)) (hp : pc + 1 = pc') (K : Go p l e R s m args below meth c Z n0 Q kc ks h cs sl (mkF m pc' Ls (.int z :: st))) : Go p l e R s m args below meth c Z n0 Q kc ks h cs sl (mkF m pc Ls (.ref a :: st)) := by
  obtain ⟨cl, A, rfl, e0⟩ := A
  exact go_arraylength C A (by rw [← hz, ← e0, Array.length_toList]) hd hp K
theorem go_iaget (C : Ctx p s m meth c Z y bytes maxL ret) {a : Addr} {k : ClassId} {vs : List Value} {j : Int32} {i : Nat} {v : Value} (A : Ar Z h a .int k vs) (hn : ¬ j < 0) (hj : j.toNatClampNeg = i) (hv : vs[i]? = some v) (hd : decode bytes pc = .ok (.iaload, 1)) (hp : pc + 1 = pc') (K : Go p l e R s m args below meth c Z n0 Q kc ks h cs sl (mkF m pc' Ls (v :: st))) : Go p l e R s m args below meth c Z n0 Q kc ks h cs sl (mkF m pc Ls (.int j :: .ref a :: st)) := by
  obtain ⟨cl, A, rfl, e0⟩ := A
  exact go_iaload C A (Ar.inb hn hj e0 (List.getElem?_eq_some_iff.mp hv).1) (by subst e0 hj; rw [← hv, Array.getElem?_toList]) hd hp K
theorem go_laget (C : Ctx p s m meth c Z y bytes maxL ret) {a : Addr} {k : ClassId} {vs : List Value} {j : Int32} {i : Nat} {v : Value} (A : Ar Z h a .long k vs) (hn : ¬ j < 0) (hj : j.toNatClampNeg = i) (hv : vs[i]? = some v) (hd : decode bytes pc = .ok (.laload, 1)) (hp : pc + 1 = pc') (K : Go p l e R s m args below meth c Z n0 Q kc ks h cs sl (mkF m pc' Ls (v :: st))) : Go p l e R s m args below meth c Z n0 Q kc ks h cs sl (mkF m pc Ls (.int j :: .ref a :: st)) := by
  obtain ⟨cl, A, rfl, e0⟩ := A
  exact go_laload C A (Ar.inb hn hj e0 (List.getElem?_eq_some_iff.mp hv).1) (by subst e0 hj; rw [← hv, Array.getElem?_toList]) hd hp K
theorem go_caget (C : Ctx p s m meth c Z y bytes maxL ret) {a : Addr} {k : ClassId} {vs : List Value} {j : Int32} {i : Nat} {v : Value} (A : Ar Z h a .char k vs) (hn : ¬ j < 0) (hj : j.toNatClampNeg = i) (hv : vs[i]? = some v) (hd : decode bytes pc = .ok (.caload, 1)) (hp : pc + 1 = pc') (K : Go p l e R s m args below meth c Z n0 Q kc ks h cs sl (mkF m pc' Ls (v :: st))) : Go p l e R s m args below meth c Z n0 Q kc ks h cs sl (mkF m pc Ls (.int j :: .ref a :: st)) := by
  obtain ⟨cl, A, rfl, e0⟩ := A
  exact go_caload C A (Ar.inb hn hj e0 (List.getElem?_eq_some_iff.mp hv).1) (by subst e0 hj; rw [← hv, Array.getElem?_toList]) hd hp K
theorem go_clone (C : Ctx p s m meth c Z y bytes maxL ret) {ad : String} {index : Nat} {a : Addr} {ty : FieldType} {k : ClassId} {vs : List Value} {len W : Nat}
    (w1 : (Jvm.Cond.methodLink y.cls index ⟨ad, "clone", "()Ljava/lang/Object;"⟩).before a0 Z = true) (w2 : (Jvm.Cond.sameMethod ad "java/lang/Object" "clone" "()Ljava/lang/Object;").before a0 Z = true) (w3 : (Jvm.Cond.native ⟨"java/lang/Object", "clone", "()Ljava/lang/Object;"⟩).before a0 Z = true)
    (w4 : (Jvm.Cond.instanceMethod ⟨"java/lang/Object", "clone", "()Ljava/lang/Object;"⟩).before a0 Z = true) (w5 : (Jvm.Cond.selects ad ⟨ad, "clone", "()Ljava/lang/Object;"⟩ ⟨"java/lang/Object", "clone", "()Ljava/lang/Object;"⟩).before a0 Z = true) (w6 : (Jvm.Cond.castable ad "java/lang/Cloneable").before a0 Z = true)
    (A : Ar Z h a ty k vs) (E : Exa Z h a ad) (hfit : ∀ v ∈ vs, fits ty v = true) (hsz : Ls.size = maxL) (hd : decode bytes pc = .ok (.invokevirtual index, 3)) (hp : pc + 3 = pc') (hf : 1 ≤ R.frames) (hW : (st.map fun v => v.category).sum ≤ W) (hl : W + 14 ≤ R.locals) (hlen : vs.length = len) (hc : cs + 1 ≤ R.cells) (hsl : sl + len ≤ R.slots)
    (K : ∀ h' b, b = h.size → n0 ≤ b → Ext h h' → Ar Z h' b ty k vs → Exa Z h' b ad → Go p l e R s m args below meth c Z n0 Q kc ks h' (cs + 1) (sl + len) (mkF m pc' Ls (.ref b :: st))) : Go p l e R s m args below meth c Z n0 Q kc ks h cs sl (mkF m pc Ls (.ref a :: st)) := fun T L0 vm0 k0 hS hk hL O X eT => by
  subst hp
  obtain ⟨cl, A, hk', e0⟩ := A
  have FC : FitC Z cl := fitC_of A fun i hi v hv => hfit v (by subst e0; exact List.mem_of_getElem? (by rw [Array.getElem?_toList]; exact hv))
  obtain ⟨T', h', X', e', E', A', Ex', hs⟩ := cloneA X C.1 (zw C hS) (ow C hS) w1 w2 w3 w4 w5 w6 eT A E FC (g := mkF m pc Ls (.ref a :: st)) rfl (hsz.trans C.2.2.1.symm) rfl (hb C.2.1 hd) hf (W := W) (by show 2 * 0 + _ ≤ _; omega) hl (cap := len) (by rw [← hlen, ← e0, Array.length_toList]; exact Nat.le_refl _) hc hsl
  obtain ⟨U, v, L', h1, r⟩ := K h' h.size rfl (O.1 ▸ O.2.1) E' ⟨cloneOf cl, A', hk', e0⟩ Ex' T' _ vm0 k0 hS (Nat.le_trans hk E'.1) hL (O.ext E') X' e'
  exact ⟨U, v, L', hs U h1, r⟩
theorem go_ldcS (C : Ctx p s m meth c Z y bytes maxL ret) {index : Nat} {text : String} {n : Nat} (w : (Jvm.Cond.stringLink y.cls index text).before a0 Z = true) (wS : ∀ a ∈ Bundle.stringAtoms, a.before a0 Z = true) (hd : decode bytes pc = .ok (.ldc index, 2)) (hp : pc + 2 = pc') (hn : 4 * text.toList.length ≤ n) (hbig : n ≤ 536870912) (hc : cs + 2 ≤ R.cells) (hl : sl + (n + 4) ≤ R.slots)
    (K : ∀ h' a, Ext h h' → Go p l e R s m args below meth c Z n0 Q kc ks h' (cs + 2) (sl + (n + 4)) (mkF m pc' Ls (.ref a :: st))) : Go p l e R s m args below meth c Z n0 Q kc ks h cs sl (mkF m pc Ls st) := fun T L0 vm0 k0 hS hk hL O X eT => by
  subst hp
  obtain ⟨a, T', h', k1, X', e', E, hS', hk', -, -, hs⟩ := ldcS X C.1 (zw C hS) (ow C hS) w wS eT hS hk (g := mkF m pc Ls st) rfl (hb C.2.1 hd) hn hbig hc hl
  obtain ⟨U, v, L', h1, r⟩ := K h' a E T' _ T'.vm k1 hS' hk' hL (O.ext E) X' e'
  exact ⟨U, v, L', hs U h1, r⟩
theorem go_newPE (C : Ctx p s m meth c Z y bytes maxL ret) {aty : ArrayType} {n : Int32} {len : Nat} {ty : FieldType} {ad : String} (hty : newarray.typeOf aty = ty) (had : "[" ++ ty.toString = ad) (w : (Jvm.Cond.arrayClass ty).before a0 Z = true) (hd : decode bytes pc = .ok (.newarray aty, 2)) (hp : pc + 2 = pc') (hn : ¬ n < 0) (hlen : n.toNatClampNeg = len) (hb' : len * 8 ≤ 536870912) (hc : cs + 1 ≤ R.cells) (hl : sl + len ≤ R.slots)
    (K : ∀ h' a k, a = h.size → n0 ≤ a → Ext h h' → Ar Z h' a ty k (List.replicate len (defaultValue ty)) → Exa Z h' a ad → Go p l e R s m args below meth c Z n0 Q kc ks h' (cs + 1) (sl + len) (mkF m pc' Ls (.ref a :: st))) : Go p l e R s m args below meth c Z n0 Q kc ks h cs sl (mkF m pc Ls (.int n :: st)) := fun T L0 vm0 k0 hS hk hL O X eT => by
  subst hp hty
  obtain ⟨T', h', k, X', e', E, A, Ex, hs⟩ := newPE X C.1 (zw C hS) w eT (g := mkF m pc Ls (.int n :: st)) rfl (hb C.2.1 hd) rfl hn (Nat.le_of_eq hlen) hb' hc hl had
  obtain ⟨U, v, L', h1, r⟩ := K h' h.size k rfl (O.1 ▸ O.2.1) E (Ar.new A hlen) Ex T' _ vm0 k0 hS (Nat.le_trans hk E.1) hL (O.ext E) X' e'
  exact ⟨U, v, L', hs U h1, r⟩
theorem go_newAA (C : Ctx p s m meth c Z y bytes maxL ret) {K0 ad : String} {ty : FieldType} {index : Nat} {n : Int32} {len : Nat} (hC : (FieldType.array ty).toString = K0) (had : "[" ++ K0 = ad) (w1 : (Jvm.Cond.classLink y.cls index K0).before a0 Z = true) (w2 : (Jvm.Cond.arrayOver (.array ty)).before a0 Z = true) (hd : decode bytes pc = .ok (.anewarray index, 3)) (hp : pc + 3 = pc') (hn : ¬ n < 0) (hlen : n.toNatClampNeg = len) (hb' : len * 8 ≤ 536870912) (hc : cs + 1 ≤ R.cells) (hl : sl + len ≤ R.slots)
    (K : ∀ h' a k, a = h.size → n0 ≤ a → Ext h h' → Ar Z h' a (.array ty) k (List.replicate len .null) → OvrA Z k ty K0 → Exa Z h' a ad → Go p l e R s m args below meth c Z n0 Q kc ks h' (cs + 1) (sl + len) (mkF m pc' Ls (.ref a :: st))) : Go p l e R s m args below meth c Z n0 Q kc ks h cs sl (mkF m pc Ls (.int n :: st)) := fun T L0 vm0 k0 hS hk hL O X eT => by
  subst hp
  obtain ⟨T', h', k, X', e', E, A, Ex, V, hs⟩ := newRA X C.1 (zw C hS) (ow C hS) hC w1 w2 eT (g := mkF m pc Ls (.int n :: st)) rfl (hb C.2.1 hd) rfl hn (Nat.le_of_eq hlen) hb' hc hl had
  obtain ⟨U, v, L', h1, r⟩ := K h' h.size k rfl (O.1 ▸ O.2.1) E (Ar.new A hlen) V Ex T' _ vm0 k0 hS (Nat.le_trans hk E.1) hL (O.ext E) X' e'
  exact ⟨U, v, L', hs U h1, r⟩
theorem go_aaset (C : Ctx p s m meth c Z y bytes maxL ret) {a b : Addr} {k : ClassId} {K0 : String} {ty : FieldType} {vs vs' : List Value} {j : Int32} {i : Nat} (A : Ar Z h a (.array ty) k vs) (V : OvrA Z k ty K0) (I : Ins Z h b K0 true) (hn : ¬ j < 0) (hj : j.toNatClampNeg = i) (hi : i < vs.length) (hvs : vs.set i (.ref b) = vs') (hd : decode bytes pc = .ok (.aastore, 1)) (hp : pc + 1 = pc') (ha : n0 ≤ a)
    (K : ∀ h', Wr h h' a i (.ref b) → Ar Z h' a (.array ty) k vs' → Go p l e R s m args below meth c Z n0 Q kc ks h' cs sl (mkF m pc' Ls st)) : Go p l e R s m args below meth c Z n0 Q kc ks h cs sl (mkF m pc Ls (.ref b :: .int j :: .ref a :: st)) := by
  obtain ⟨cl, A, rfl, e0⟩ := A
  subst hvs
  exact go_stR C A (Ar.inb hn hj e0 hi) rfl (Sto.ofVA A rfl V I) hd hp ha fun h' W A' => K h' (hj ▸ W) (Ar.upd A' hj e0)
theorem go_dupX2 (C : Ctx p s m meth c Z y bytes maxL ret) {u v w : Value} (hd : decode bytes pc = .ok (.dup_x2, 1)) (hu : u.category = 1) (hv : v.category = 1) (hw : w.category = 1) (hp : pc + 1 = pc') (K : Go p l e R s m args below meth c Z n0 Q kc ks h cs sl (mkF m pc' Ls (u :: v :: w :: u :: st))) : Go p l e R s m args below meth c Z n0 Q kc ks h cs sl (mkF m pc Ls (u :: v :: w :: st)) := by
  subst hp
  refine go_step K fun T t a k => ?_
  have hx := C.1
  have hd' := hb C.2.1 hd
  jvm_step a [a.top, hx, hd', hu, hv, hw]
  exact k
end OwnGo
theorem wd_0 {Z : State} {a0 : Array Value} (hw : ∀ d ∈ tables_1, d.before a0 Z = true) : (Jvm.Cond.methodLink "com/example/hustings/hustings/model/WinsAddAllPinLaw" (34 : Nat) ({ cls := "com/example/hustings/hustings/model/WinsAddAllPinLaw", name := "code", desc := "(I)I" } : Jvm.MethodName)).before a0 Z = true := hw _ (List.mem_of_getElem? (i := 0) rfl)
theorem wd_1 {Z : State} {a0 : Array Value} (hw : ∀ d ∈ tables_1, d.before a0 Z = true) : (Jvm.Cond.static ({ cls := "com/example/hustings/hustings/model/WinsAddAllPinLaw", name := "code", desc := "(I)I" } : Jvm.MethodName)).before a0 Z = true := hw _ (List.mem_of_getElem? (i := 1) rfl)
theorem wd_2 {Z : State} {a0 : Array Value} (hw : ∀ d ∈ tables_1, d.before a0 Z = true) : (Jvm.Cond.initialized "com/example/hustings/hustings/model/WinsAddAllPinLaw").before a0 Z = true := hw _ (List.mem_of_getElem? (i := 2) rfl)
theorem wd_3 {Z : State} {a0 : Array Value} (hw : ∀ d ∈ tables_1, d.before a0 Z = true) : (Jvm.Cond.code ({ cls := "com/example/hustings/hustings/model/WinsAddAllPinLaw", name := "code", desc := "(I)I" } : Jvm.MethodName) method_2_code (1 : Nat) (Option.some Jvm.ClassFile.FieldType.int)).before a0 Z = true := hw _ (List.mem_of_getElem? (i := 3) rfl)
theorem wd_4 {Z : State} {a0 : Array Value} (hw : ∀ d ∈ tables_1, d.before a0 Z = true) : (Jvm.Cond.constant "com/example/hustings/hustings/model/WinsAddAllPinLaw" (7 : Nat) (2147483647 : Int32)).before a0 Z = true := hw _ (List.mem_of_getElem? (i := 4) rfl)
theorem wd_5 {Z : State} {a0 : Array Value} (hw : ∀ d ∈ tables_1, d.before a0 Z = true) : (Jvm.Cond.classLink "com/example/hustings/hustings/model/WinsAddAllPinLaw" (20 : Nat) "com/example/hustings/hustings/model/Wins").before a0 Z = true := hw _ (List.mem_of_getElem? (i := 5) rfl)
theorem wd_6 {Z : State} {a0 : Array Value} (hw : ∀ d ∈ tables_1, d.before a0 Z = true) : (Jvm.Cond.instantiable "com/example/hustings/hustings/model/Wins" (2 : Nat)).before a0 Z = true := hw _ (List.mem_of_getElem? (i := 6) rfl)
theorem wd_7 {Z : State} {a0 : Array Value} (hw : ∀ d ∈ tables_1, d.before a0 Z = true) : (Jvm.Cond.initialized "com/example/hustings/hustings/model/Wins").before a0 Z = true := hw _ (List.mem_of_getElem? (i := 7) rfl)
theorem wd_8 {Z : State} {a0 : Array Value} (hw : ∀ d ∈ tables_1, d.before a0 Z = true) : (Jvm.Cond.methodLink "com/example/hustings/hustings/model/WinsAddAllPinLaw" (40 : Nat) ({ cls := "com/example/hustings/hustings/model/Wins", name := "<init>", desc := "()V" } : Jvm.MethodName)).before a0 Z = true := hw _ (List.mem_of_getElem? (i := 8) rfl)
theorem wd_9 {Z : State} {a0 : Array Value} (hw : ∀ d ∈ tables_1, d.before a0 Z = true) : (Jvm.Cond.instanceMethod ({ cls := "com/example/hustings/hustings/model/Wins", name := "<init>", desc := "()V" } : Jvm.MethodName)).before a0 Z = true := hw _ (List.mem_of_getElem? (i := 9) rfl)
theorem wd_10 {Z : State} {a0 : Array Value} (hw : ∀ d ∈ tables_1, d.before a0 Z = true) : (Jvm.Cond.code ({ cls := "com/example/hustings/hustings/model/Wins", name := "<init>", desc := "()V" } : Jvm.MethodName) prog_32_method_1_code (1 : Nat) (Option.none : Option Jvm.ClassFile.FieldType)).before a0 Z = true := hw _ (List.mem_of_getElem? (i := 10) rfl)
theorem wd_11 {Z : State} {a0 : Array Value} (hw : ∀ d ∈ tables_1, d.before a0 Z = true) : (Jvm.Cond.methodLink "com/example/hustings/hustings/model/Wins" (1 : Nat) ({ cls := "java/lang/Object", name := "<init>", desc := "()V" } : Jvm.MethodName)).before a0 Z = true := hw _ (List.mem_of_getElem? (i := 11) rfl)
theorem wd_12 {Z : State} {a0 : Array Value} (hw : ∀ d ∈ tables_1, d.before a0 Z = true) : (Jvm.Cond.instanceMethod ({ cls := "java/lang/Object", name := "<init>", desc := "()V" } : Jvm.MethodName)).before a0 Z = true := hw _ (List.mem_of_getElem? (i := 12) rfl)
theorem wd_13 {Z : State} {a0 : Array Value} (hw : ∀ d ∈ tables_1, d.before a0 Z = true) : (Jvm.Cond.code ({ cls := "java/lang/Object", name := "<init>", desc := "()V" } : Jvm.MethodName) object_method_1_code (1 : Nat) (Option.none : Option Jvm.ClassFile.FieldType)).before a0 Z = true := hw _ (List.mem_of_getElem? (i := 13) rfl)
theorem wd_14 {Z : State} {a0 : Array Value} (hw : ∀ d ∈ tables_1, d.before a0 Z = true) : (Jvm.Cond.methodLink "com/example/hustings/hustings/model/Wins" (7 : Nat) ({ cls := "com/example/hustings/hustings/model/Party", name := "values", desc := "()[Lcom/example/hustings/hustings/model/Party;" } : Jvm.MethodName)).before a0 Z = true := hw _ (List.mem_of_getElem? (i := 14) rfl)
theorem wd_15 {Z : State} {a0 : Array Value} (hw : ∀ d ∈ tables_1, d.before a0 Z = true) : (Jvm.Cond.static ({ cls := "com/example/hustings/hustings/model/Party", name := "values", desc := "()[Lcom/example/hustings/hustings/model/Party;" } : Jvm.MethodName)).before a0 Z = true := hw _ (List.mem_of_getElem? (i := 15) rfl)
theorem wd_16 {Z : State} {a0 : Array Value} (hw : ∀ d ∈ tables_1, d.before a0 Z = true) : (Jvm.Cond.initialized "com/example/hustings/hustings/model/Party").before a0 Z = true := hw _ (List.mem_of_getElem? (i := 16) rfl)
theorem wd_17 {Z : State} {a0 : Array Value} (hw : ∀ d ∈ tables_1, d.before a0 Z = true) : (Jvm.Cond.code ({ cls := "com/example/hustings/hustings/model/Party", name := "values", desc := "()[Lcom/example/hustings/hustings/model/Party;" } : Jvm.MethodName) prog_21_method_1_code (0 : Nat) (Option.some (Jvm.ClassFile.FieldType.array (Jvm.ClassFile.FieldType.object "com/example/hustings/hustings/model/Party")))).before a0 Z = true := hw _ (List.mem_of_getElem? (i := 17) rfl)
theorem wd_18 {Z : State} {a0 : Array Value} (hw : ∀ d ∈ tables_1, d.before a0 Z = true) : (Jvm.Cond.fieldLink "com/example/hustings/hustings/model/Party" (13 : Nat) "com/example/hustings/hustings/model/Party" "$VALUES" "[Lcom/example/hustings/hustings/model/Party;").before a0 Z = true := hw _ (List.mem_of_getElem? (i := 18) rfl)
theorem wd_19 {Z : State} {a0 : Array Value} (hw : ∀ d ∈ tables_1, d.before a0 Z = true) : (Jvm.Cond.laysStatic "com/example/hustings/hustings/model/Party" "$VALUES" "[Lcom/example/hustings/hustings/model/Party;").before a0 Z = true := hw _ (List.mem_of_getElem? (i := 19) rfl)
theorem wd_20 {Z : State} {a0 : Array Value} (hw : ∀ d ∈ tables_1, d.before a0 Z = true) : (Jvm.Cond.methodLink "com/example/hustings/hustings/model/Party" (17 : Nat) ({ cls := "[Lcom/example/hustings/hustings/model/Party;", name := "clone", desc := "()Ljava/lang/Object;" } : Jvm.MethodName)).before a0 Z = true := hw _ (List.mem_of_getElem? (i := 20) rfl)
theorem wd_21 {Z : State} {a0 : Array Value} (hw : ∀ d ∈ tables_1, d.before a0 Z = true) : (Jvm.Cond.sameMethod "[Lcom/example/hustings/hustings/model/Party;" "java/lang/Object" "clone" "()Ljava/lang/Object;").before a0 Z = true := hw _ (List.mem_of_getElem? (i := 21) rfl)
theorem wd_23 {Z : State} {a0 : Array Value} (hw : ∀ d ∈ tables_1, d.before a0 Z = true) : (Jvm.Cond.instanceMethod ({ cls := "java/lang/Object", name := "clone", desc := "()Ljava/lang/Object;" } : Jvm.MethodName)).before a0 Z = true := hw _ (List.mem_of_getElem? (i := 23) rfl)
theorem wd_24 {Z : State} {a0 : Array Value} (hw : ∀ d ∈ tables_1, d.before a0 Z = true) : (Jvm.Cond.selects "[Lcom/example/hustings/hustings/model/Party;" ({ cls := "[Lcom/example/hustings/hustings/model/Party;", name := "clone", desc := "()Ljava/lang/Object;" } : Jvm.MethodName) ({ cls := "java/lang/Object", name := "clone", desc := "()Ljava/lang/Object;" } : Jvm.MethodName)).before a0 Z = true := hw _ (List.mem_of_getElem? (i := 24) rfl)
theorem wd_25 {Z : State} {a0 : Array Value} (hw : ∀ d ∈ tables_1, d.before a0 Z = true) : (Jvm.Cond.native ({ cls := "java/lang/Object", name := "clone", desc := "()Ljava/lang/Object;" } : Jvm.MethodName)).before a0 Z = true := hw _ (List.mem_of_getElem? (i := 25) rfl)
theorem wd_26 {Z : State} {a0 : Array Value} (hw : ∀ d ∈ tables_1, d.before a0 Z = true) : (Jvm.Cond.castable "[Lcom/example/hustings/hustings/model/Party;" "java/lang/Cloneable").before a0 Z = true := hw _ (List.mem_of_getElem? (i := 26) rfl)
theorem wd_27 {Z : State} {a0 : Array Value} (hw : ∀ d ∈ tables_1, d.before a0 Z = true) : (Jvm.Cond.laysStatic "com/example/hustings/hustings/model/Party" "RED" "Lcom/example/hustings/hustings/model/Party;").before a0 Z = true := hw _ (List.mem_of_getElem? (i := 27) rfl)
theorem wd_28 {Z : State} {a0 : Array Value} (hw : ∀ d ∈ tables_1, d.before a0 Z = true) : (Jvm.Cond.laysStatic "com/example/hustings/hustings/model/Party" "BLUE" "Lcom/example/hustings/hustings/model/Party;").before a0 Z = true := hw _ (List.mem_of_getElem? (i := 28) rfl)
theorem wd_29 {Z : State} {a0 : Array Value} (hw : ∀ d ∈ tables_1, d.before a0 Z = true) : (Jvm.Cond.laysStatic "com/example/hustings/hustings/model/Party" "YELLOW" "Lcom/example/hustings/hustings/model/Party;").before a0 Z = true := hw _ (List.mem_of_getElem? (i := 29) rfl)
theorem wd_31 {Z : State} {a0 : Array Value} (hw : ∀ d ∈ tables_1, d.before a0 Z = true) : (Jvm.Cond.classLink "com/example/hustings/hustings/model/Party" (18 : Nat) "[Lcom/example/hustings/hustings/model/Party;").before a0 Z = true := hw _ (List.mem_of_getElem? (i := 31) rfl)
theorem wd_33 {Z : State} {a0 : Array Value} (hw : ∀ d ∈ tables_1, d.before a0 Z = true) : (Jvm.Cond.arrayClass Jvm.ClassFile.FieldType.long).before a0 Z = true := hw _ (List.mem_of_getElem? (i := 33) rfl)
theorem wd_34 {Z : State} {a0 : Array Value} (hw : ∀ d ∈ tables_1, d.before a0 Z = true) : (Jvm.Cond.fieldLink "com/example/hustings/hustings/model/Wins" (13 : Nat) "com/example/hustings/hustings/model/Wins" "won" "[J").before a0 Z = true := hw _ (List.mem_of_getElem? (i := 34) rfl)
theorem wd_35 {Z : State} {a0 : Array Value} (hw : ∀ d ∈ tables_1, d.before a0 Z = true) : (Jvm.Cond.laysFinal "com/example/hustings/hustings/model/Wins" "com/example/hustings/hustings/model/Wins" "won" "[J").before a0 Z = true := hw _ (List.mem_of_getElem? (i := 35) rfl)
theorem wd_36 {Z : State} {a0 : Array Value} (hw : ∀ d ∈ tables_1, d.before a0 Z = true) : (Jvm.Cond.methodLink "com/example/hustings/hustings/model/WinsAddAllPinLaw" (41 : Nat) ({ cls := "com/example/hustings/hustings/model/WinsAddAllPinLaw", name := "put", desc := "(Lcom/example/hustings/hustings/model/Wins;I)V" } : Jvm.MethodName)).before a0 Z = true := hw _ (List.mem_of_getElem? (i := 36) rfl)
theorem wd_37 {Z : State} {a0 : Array Value} (hw : ∀ d ∈ tables_1, d.before a0 Z = true) : (Jvm.Cond.static ({ cls := "com/example/hustings/hustings/model/WinsAddAllPinLaw", name := "put", desc := "(Lcom/example/hustings/hustings/model/Wins;I)V" } : Jvm.MethodName)).before a0 Z = true := hw _ (List.mem_of_getElem? (i := 37) rfl)
theorem wd_38 {Z : State} {a0 : Array Value} (hw : ∀ d ∈ tables_1, d.before a0 Z = true) : (Jvm.Cond.code ({ cls := "com/example/hustings/hustings/model/WinsAddAllPinLaw", name := "put", desc := "(Lcom/example/hustings/hustings/model/Wins;I)V" } : Jvm.MethodName) method_3_code (2 : Nat) (Option.none : Option Jvm.ClassFile.FieldType)).before a0 Z = true := hw _ (List.mem_of_getElem? (i := 38) rfl)
theorem wd_39 {Z : State} {a0 : Array Value} (hw : ∀ d ∈ tables_1, d.before a0 Z = true) : (Jvm.Cond.classLink "com/example/hustings/hustings/model/WinsAddAllPinLaw" (8 : Nat) "com/example/hustings/hustings/model/Outcome$Won").before a0 Z = true := hw _ (List.mem_of_getElem? (i := 39) rfl)
theorem wd_40 {Z : State} {a0 : Array Value} (hw : ∀ d ∈ tables_1, d.before a0 Z = true) : (Jvm.Cond.instantiable "com/example/hustings/hustings/model/Outcome$Won" (2 : Nat)).before a0 Z = true := hw _ (List.mem_of_getElem? (i := 40) rfl)
theorem wd_41 {Z : State} {a0 : Array Value} (hw : ∀ d ∈ tables_1, d.before a0 Z = true) : (Jvm.Cond.initialized "com/example/hustings/hustings/model/Outcome$Won").before a0 Z = true := hw _ (List.mem_of_getElem? (i := 41) rfl)
theorem wd_42 {Z : State} {a0 : Array Value} (hw : ∀ d ∈ tables_1, d.before a0 Z = true) : (Jvm.Cond.fieldLink "com/example/hustings/hustings/model/WinsAddAllPinLaw" (10 : Nat) "com/example/hustings/hustings/model/Party" "RED" "Lcom/example/hustings/hustings/model/Party;").before a0 Z = true := hw _ (List.mem_of_getElem? (i := 42) rfl)
theorem wd_43 {Z : State} {a0 : Array Value} (hw : ∀ d ∈ tables_1, d.before a0 Z = true) : (Jvm.Cond.methodLink "com/example/hustings/hustings/model/WinsAddAllPinLaw" (16 : Nat) ({ cls := "com/example/hustings/hustings/model/Outcome$Won", name := "<init>", desc := "(Lcom/example/hustings/hustings/model/Party;I)V" } : Jvm.MethodName)).before a0 Z = true := hw _ (List.mem_of_getElem? (i := 43) rfl)
theorem wd_44 {Z : State} {a0 : Array Value} (hw : ∀ d ∈ tables_1, d.before a0 Z = true) : (Jvm.Cond.instanceMethod ({ cls := "com/example/hustings/hustings/model/Outcome$Won", name := "<init>", desc := "(Lcom/example/hustings/hustings/model/Party;I)V" } : Jvm.MethodName)).before a0 Z = true := hw _ (List.mem_of_getElem? (i := 44) rfl)
theorem wd_45 {Z : State} {a0 : Array Value} (hw : ∀ d ∈ tables_1, d.before a0 Z = true) : (Jvm.Cond.code ({ cls := "com/example/hustings/hustings/model/Outcome$Won", name := "<init>", desc := "(Lcom/example/hustings/hustings/model/Party;I)V" } : Jvm.MethodName) prog_20_method_1_code (3 : Nat) (Option.none : Option Jvm.ClassFile.FieldType)).before a0 Z = true := hw _ (List.mem_of_getElem? (i := 45) rfl)
theorem wd_46 {Z : State} {a0 : Array Value} (hw : ∀ d ∈ tables_1, d.before a0 Z = true) : (Jvm.Cond.methodLink "com/example/hustings/hustings/model/Outcome$Won" (1 : Nat) ({ cls := "java/lang/Record", name := "<init>", desc := "()V" } : Jvm.MethodName)).before a0 Z = true := hw _ (List.mem_of_getElem? (i := 46) rfl)
theorem wd_47 {Z : State} {a0 : Array Value} (hw : ∀ d ∈ tables_1, d.before a0 Z = true) : (Jvm.Cond.instanceMethod ({ cls := "java/lang/Record", name := "<init>", desc := "()V" } : Jvm.MethodName)).before a0 Z = true := hw _ (List.mem_of_getElem? (i := 47) rfl)
theorem wd_49 {Z : State} {a0 : Array Value} (hw : ∀ d ∈ tables_1, d.before a0 Z = true) : (Jvm.Cond.initialized "java/lang/Record").before a0 Z = true := hw _ (List.mem_of_getElem? (i := 49) rfl)
theorem wd_50 {Z : State} {a0 : Array Value} (hw : ∀ d ∈ tables_1, d.before a0 Z = true) : (Jvm.Cond.code ({ cls := "java/lang/Record", name := "<init>", desc := "()V" } : Jvm.MethodName) jdk_30_method_1_code (1 : Nat) (Option.none : Option Jvm.ClassFile.FieldType)).before a0 Z = true := hw _ (List.mem_of_getElem? (i := 50) rfl)
theorem wd_51 {Z : State} {a0 : Array Value} (hw : ∀ d ∈ tables_1, d.before a0 Z = true) : (Jvm.Cond.methodLink "java/lang/Record" (1 : Nat) ({ cls := "java/lang/Object", name := "<init>", desc := "()V" } : Jvm.MethodName)).before a0 Z = true := hw _ (List.mem_of_getElem? (i := 51) rfl)
theorem wd_52 {Z : State} {a0 : Array Value} (hw : ∀ d ∈ tables_1, d.before a0 Z = true) : (Jvm.Cond.stringLink "com/example/hustings/hustings/model/Outcome$Won" (7 : Nat) "winner").before a0 Z = true := hw _ (List.mem_of_getElem? (i := 52) rfl)
theorem wd_53 {Z : State} {a0 : Array Value} (hw : ∀ d ∈ tables_1, d.before a0 Z = true) : (Jvm.Cond.initialized "java/lang/String").before a0 Z = true := hw _ (List.mem_of_getElem? (i := 53) rfl)
theorem wd_54 {Z : State} {a0 : Array Value} (hw : ∀ d ∈ tables_1, d.before a0 Z = true) : (Jvm.Cond.instantiable "java/lang/String" (4 : Nat)).before a0 Z = true := hw _ (List.mem_of_getElem? (i := 54) rfl)
theorem wd_55 {Z : State} {a0 : Array Value} (hw : ∀ d ∈ tables_1, d.before a0 Z = true) : (Jvm.Cond.arrayClass Jvm.ClassFile.FieldType.byte).before a0 Z = true := hw _ (List.mem_of_getElem? (i := 55) rfl)
theorem wd_56 {Z : State} {a0 : Array Value} (hw : ∀ d ∈ tables_1, d.before a0 Z = true) : (Jvm.Cond.laysFinal "java/lang/String" "java/lang/String" "value" "[B").before a0 Z = true := hw _ (List.mem_of_getElem? (i := 56) rfl)
theorem wd_57 {Z : State} {a0 : Array Value} (hw : ∀ d ∈ tables_1, d.before a0 Z = true) : (Jvm.Cond.laysFinal "java/lang/String" "java/lang/String" "coder" "B").before a0 Z = true := hw _ (List.mem_of_getElem? (i := 57) rfl)
theorem wd_58 {Z : State} {a0 : Array Value} (hw : ∀ d ∈ tables_1, d.before a0 Z = true) : (Jvm.Cond.soleField "java/lang/String" "value").before a0 Z = true := hw _ (List.mem_of_getElem? (i := 58) rfl)
theorem wd_59 {Z : State} {a0 : Array Value} (hw : ∀ d ∈ tables_1, d.before a0 Z = true) : (Jvm.Cond.soleField "java/lang/String" "coder").before a0 Z = true := hw _ (List.mem_of_getElem? (i := 59) rfl)
theorem wd_60 {Z : State} {a0 : Array Value} (hw : ∀ d ∈ tables_1, d.before a0 Z = true) : (Jvm.Cond.methodLink "com/example/hustings/hustings/model/Outcome$Won" (9 : Nat) ({ cls := "java/util/Objects", name := "requireNonNull", desc := "(Ljava/lang/Object;Ljava/lang/String;)Ljava/lang/Object;" } : Jvm.MethodName)).before a0 Z = true := hw _ (List.mem_of_getElem? (i := 60) rfl)
theorem wd_61 {Z : State} {a0 : Array Value} (hw : ∀ d ∈ tables_1, d.before a0 Z = true) : (Jvm.Cond.static ({ cls := "java/util/Objects", name := "requireNonNull", desc := "(Ljava/lang/Object;Ljava/lang/String;)Ljava/lang/Object;" } : Jvm.MethodName)).before a0 Z = true := hw _ (List.mem_of_getElem? (i := 61) rfl)
theorem wd_62 {Z : State} {a0 : Array Value} (hw : ∀ d ∈ tables_1, d.before a0 Z = true) : (Jvm.Cond.initialized "java/util/Objects").before a0 Z = true := hw _ (List.mem_of_getElem? (i := 62) rfl)
theorem wd_63 {Z : State} {a0 : Array Value} (hw : ∀ d ∈ tables_1, d.before a0 Z = true) : (Jvm.Cond.code ({ cls := "java/util/Objects", name := "requireNonNull", desc := "(Ljava/lang/Object;Ljava/lang/String;)Ljava/lang/Object;" } : Jvm.MethodName) jdk_31_method_11_code (2 : Nat) (Option.some (Jvm.ClassFile.FieldType.object "java/lang/Object"))).before a0 Z = true := hw _ (List.mem_of_getElem? (i := 63) rfl)
theorem wd_64 {Z : State} {a0 : Array Value} (hw : ∀ d ∈ tables_1, d.before a0 Z = true) : (Jvm.Cond.fieldLink "com/example/hustings/hustings/model/Outcome$Won" (15 : Nat) "com/example/hustings/hustings/model/Outcome$Won" "winner" "Lcom/example/hustings/hustings/model/Party;").before a0 Z = true := hw _ (List.mem_of_getElem? (i := 64) rfl)
theorem wd_65 {Z : State} {a0 : Array Value} (hw : ∀ d ∈ tables_1, d.before a0 Z = true) : (Jvm.Cond.laysFinal "com/example/hustings/hustings/model/Outcome$Won" "com/example/hustings/hustings/model/Outcome$Won" "winner" "Lcom/example/hustings/hustings/model/Party;").before a0 Z = true := hw _ (List.mem_of_getElem? (i := 65) rfl)
theorem wd_66 {Z : State} {a0 : Array Value} (hw : ∀ d ∈ tables_1, d.before a0 Z = true) : (Jvm.Cond.fieldLink "com/example/hustings/hustings/model/Outcome$Won" (20 : Nat) "com/example/hustings/hustings/model/Outcome$Won" "decidedBy" "I").before a0 Z = true := hw _ (List.mem_of_getElem? (i := 66) rfl)
theorem wd_67 {Z : State} {a0 : Array Value} (hw : ∀ d ∈ tables_1, d.before a0 Z = true) : (Jvm.Cond.laysFinal "com/example/hustings/hustings/model/Outcome$Won" "com/example/hustings/hustings/model/Outcome$Won" "decidedBy" "I").before a0 Z = true := hw _ (List.mem_of_getElem? (i := 67) rfl)
theorem wd_68 {Z : State} {a0 : Array Value} (hw : ∀ d ∈ tables_1, d.before a0 Z = true) : (Jvm.Cond.methodLink "com/example/hustings/hustings/model/WinsAddAllPinLaw" (19 : Nat) ({ cls := "com/example/hustings/hustings/model/Wins", name := "add", desc := "(Lcom/example/hustings/hustings/model/Outcome;)V" } : Jvm.MethodName)).before a0 Z = true := hw _ (List.mem_of_getElem? (i := 68) rfl)
theorem wd_69 {Z : State} {a0 : Array Value} (hw : ∀ d ∈ tables_1, d.before a0 Z = true) : (Jvm.Cond.declares ({ cls := "com/example/hustings/hustings/model/Wins", name := "add", desc := "(Lcom/example/hustings/hustings/model/Outcome;)V" } : Jvm.MethodName)).before a0 Z = true := hw _ (List.mem_of_getElem? (i := 69) rfl)
theorem wd_70 {Z : State} {a0 : Array Value} (hw : ∀ d ∈ tables_1, d.before a0 Z = true) : (Jvm.Cond.instanceMethod ({ cls := "com/example/hustings/hustings/model/Wins", name := "add", desc := "(Lcom/example/hustings/hustings/model/Outcome;)V" } : Jvm.MethodName)).before a0 Z = true := hw _ (List.mem_of_getElem? (i := 70) rfl)
theorem wd_71 {Z : State} {a0 : Array Value} (hw : ∀ d ∈ tables_1, d.before a0 Z = true) : (Jvm.Cond.selects "com/example/hustings/hustings/model/Wins" ({ cls := "com/example/hustings/hustings/model/Wins", name := "add", desc := "(Lcom/example/hustings/hustings/model/Outcome;)V" } : Jvm.MethodName) ({ cls := "com/example/hustings/hustings/model/Wins", name := "add", desc := "(Lcom/example/hustings/hustings/model/Outcome;)V" } : Jvm.MethodName)).before a0 Z = true := hw _ (List.mem_of_getElem? (i := 71) rfl)
theorem wd_72 {Z : State} {a0 : Array Value} (hw : ∀ d ∈ tables_1, d.before a0 Z = true) : (Jvm.Cond.code ({ cls := "com/example/hustings/hustings/model/Wins", name := "add", desc := "(Lcom/example/hustings/hustings/model/Outcome;)V" } : Jvm.MethodName) prog_32_method_2_code (3 : Nat) (Option.none : Option Jvm.ClassFile.FieldType)).before a0 Z = true := hw _ (List.mem_of_getElem? (i := 72) rfl)
theorem wd_73 {Z : State} {a0 : Array Value} (hw : ∀ d ∈ tables_1, d.before a0 Z = true) : (Jvm.Cond.classLink "com/example/hustings/hustings/model/Wins" (19 : Nat) "com/example/hustings/hustings/model/Outcome$Won").before a0 Z = true := hw _ (List.mem_of_getElem? (i := 73) rfl)
theorem wd_75 {Z : State} {a0 : Array Value} (hw : ∀ d ∈ tables_1, d.before a0 Z = true) : (Jvm.Cond.methodLink "com/example/hustings/hustings/model/Wins" (21 : Nat) ({ cls := "com/example/hustings/hustings/model/Outcome$Won", name := "winner", desc := "()Lcom/example/hustings/hustings/model/Party;" } : Jvm.MethodName)).before a0 Z = true := hw _ (List.mem_of_getElem? (i := 75) rfl)
theorem wd_76 {Z : State} {a0 : Array Value} (hw : ∀ d ∈ tables_1, d.before a0 Z = true) : (Jvm.Cond.declares ({ cls := "com/example/hustings/hustings/model/Outcome$Won", name := "winner", desc := "()Lcom/example/hustings/hustings/model/Party;" } : Jvm.MethodName)).before a0 Z = true := hw _ (List.mem_of_getElem? (i := 76) rfl)
theorem wd_77 {Z : State} {a0 : Array Value} (hw : ∀ d ∈ tables_1, d.before a0 Z = true) : (Jvm.Cond.instanceMethod ({ cls := "com/example/hustings/hustings/model/Outcome$Won", name := "winner", desc := "()Lcom/example/hustings/hustings/model/Party;" } : Jvm.MethodName)).before a0 Z = true := hw _ (List.mem_of_getElem? (i := 77) rfl)
theorem wd_78 {Z : State} {a0 : Array Value} (hw : ∀ d ∈ tables_1, d.before a0 Z = true) : (Jvm.Cond.selects "com/example/hustings/hustings/model/Outcome$Won" ({ cls := "com/example/hustings/hustings/model/Outcome$Won", name := "winner", desc := "()Lcom/example/hustings/hustings/model/Party;" } : Jvm.MethodName) ({ cls := "com/example/hustings/hustings/model/Outcome$Won", name := "winner", desc := "()Lcom/example/hustings/hustings/model/Party;" } : Jvm.MethodName)).before a0 Z = true := hw _ (List.mem_of_getElem? (i := 78) rfl)
theorem wd_79 {Z : State} {a0 : Array Value} (hw : ∀ d ∈ tables_1, d.before a0 Z = true) : (Jvm.Cond.code ({ cls := "com/example/hustings/hustings/model/Outcome$Won", name := "winner", desc := "()Lcom/example/hustings/hustings/model/Party;" } : Jvm.MethodName) prog_20_method_7_code (1 : Nat) (Option.some (Jvm.ClassFile.FieldType.object "com/example/hustings/hustings/model/Party"))).before a0 Z = true := hw _ (List.mem_of_getElem? (i := 79) rfl)
theorem wd_80 {Z : State} {a0 : Array Value} (hw : ∀ d ∈ tables_1, d.before a0 Z = true) : (Jvm.Cond.methodLink "com/example/hustings/hustings/model/Wins" (25 : Nat) ({ cls := "com/example/hustings/hustings/model/Party", name := "ordinal", desc := "()I" } : Jvm.MethodName)).before a0 Z = true := hw _ (List.mem_of_getElem? (i := 80) rfl)
theorem wd_81 {Z : State} {a0 : Array Value} (hw : ∀ d ∈ tables_1, d.before a0 Z = true) : (Jvm.Cond.sameMethod "com/example/hustings/hustings/model/Party" "java/lang/Enum" "ordinal" "()I").before a0 Z = true := hw _ (List.mem_of_getElem? (i := 81) rfl)
theorem wd_82 {Z : State} {a0 : Array Value} (hw : ∀ d ∈ tables_1, d.before a0 Z = true) : (Jvm.Cond.declares ({ cls := "java/lang/Enum", name := "ordinal", desc := "()I" } : Jvm.MethodName)).before a0 Z = true := hw _ (List.mem_of_getElem? (i := 82) rfl)
theorem wd_83 {Z : State} {a0 : Array Value} (hw : ∀ d ∈ tables_1, d.before a0 Z = true) : (Jvm.Cond.instanceMethod ({ cls := "java/lang/Enum", name := "ordinal", desc := "()I" } : Jvm.MethodName)).before a0 Z = true := hw _ (List.mem_of_getElem? (i := 83) rfl)
theorem wd_84 {Z : State} {a0 : Array Value} (hw : ∀ d ∈ tables_1, d.before a0 Z = true) : (Jvm.Cond.selects "com/example/hustings/hustings/model/Party" ({ cls := "com/example/hustings/hustings/model/Party", name := "ordinal", desc := "()I" } : Jvm.MethodName) ({ cls := "java/lang/Enum", name := "ordinal", desc := "()I" } : Jvm.MethodName)).before a0 Z = true := hw _ (List.mem_of_getElem? (i := 84) rfl)
theorem wd_85 {Z : State} {a0 : Array Value} (hw : ∀ d ∈ tables_1, d.before a0 Z = true) : (Jvm.Cond.initialized "java/lang/Enum").before a0 Z = true := hw _ (List.mem_of_getElem? (i := 85) rfl)
theorem wd_86 {Z : State} {a0 : Array Value} (hw : ∀ d ∈ tables_1, d.before a0 Z = true) : (Jvm.Cond.code ({ cls := "java/lang/Enum", name := "ordinal", desc := "()I" } : Jvm.MethodName) jdk_37_method_2_code (1 : Nat) (Option.some Jvm.ClassFile.FieldType.int)).before a0 Z = true := hw _ (List.mem_of_getElem? (i := 86) rfl)
theorem wd_87 {Z : State} {a0 : Array Value} (hw : ∀ d ∈ tables_1, d.before a0 Z = true) : (Jvm.Cond.fieldLink "java/lang/Enum" (7 : Nat) "java/lang/Enum" "ordinal" "I").before a0 Z = true := hw _ (List.mem_of_getElem? (i := 87) rfl)
theorem wd_89 {Z : State} {a0 : Array Value} (hw : ∀ d ∈ tables_1, d.before a0 Z = true) : (Jvm.Cond.classLink "com/example/hustings/hustings/model/WinsAddAllPinLaw" (31 : Nat) "com/example/hustings/hustings/model/Outcome$Tie").before a0 Z = true := hw _ (List.mem_of_getElem? (i := 89) rfl)
theorem wd_90 {Z : State} {a0 : Array Value} (hw : ∀ d ∈ tables_1, d.before a0 Z = true) : (Jvm.Cond.instantiable "com/example/hustings/hustings/model/Outcome$Tie" (0 : Nat)).before a0 Z = true := hw _ (List.mem_of_getElem? (i := 90) rfl)
theorem wd_91 {Z : State} {a0 : Array Value} (hw : ∀ d ∈ tables_1, d.before a0 Z = true) : (Jvm.Cond.initialized "com/example/hustings/hustings/model/Outcome$Tie").before a0 Z = true := hw _ (List.mem_of_getElem? (i := 91) rfl)
theorem wd_92 {Z : State} {a0 : Array Value} (hw : ∀ d ∈ tables_1, d.before a0 Z = true) : (Jvm.Cond.methodLink "com/example/hustings/hustings/model/WinsAddAllPinLaw" (33 : Nat) ({ cls := "com/example/hustings/hustings/model/Outcome$Tie", name := "<init>", desc := "()V" } : Jvm.MethodName)).before a0 Z = true := hw _ (List.mem_of_getElem? (i := 92) rfl)
theorem wd_93 {Z : State} {a0 : Array Value} (hw : ∀ d ∈ tables_1, d.before a0 Z = true) : (Jvm.Cond.instanceMethod ({ cls := "com/example/hustings/hustings/model/Outcome$Tie", name := "<init>", desc := "()V" } : Jvm.MethodName)).before a0 Z = true := hw _ (List.mem_of_getElem? (i := 93) rfl)
theorem wd_94 {Z : State} {a0 : Array Value} (hw : ∀ d ∈ tables_1, d.before a0 Z = true) : (Jvm.Cond.code ({ cls := "com/example/hustings/hustings/model/Outcome$Tie", name := "<init>", desc := "()V" } : Jvm.MethodName) prog_19_method_1_code (1 : Nat) (Option.none : Option Jvm.ClassFile.FieldType)).before a0 Z = true := hw _ (List.mem_of_getElem? (i := 94) rfl)
theorem wd_95 {Z : State} {a0 : Array Value} (hw : ∀ d ∈ tables_1, d.before a0 Z = true) : (Jvm.Cond.methodLink "com/example/hustings/hustings/model/Outcome$Tie" (1 : Nat) ({ cls := "java/lang/Record", name := "<init>", desc := "()V" } : Jvm.MethodName)).before a0 Z = true := hw _ (List.mem_of_getElem? (i := 95) rfl)
theorem wd_96 {Z : State} {a0 : Array Value} (hw : ∀ d ∈ tables_1, d.before a0 Z = true) : (Jvm.Cond.superclass "com/example/hustings/hustings/model/Outcome$Tie" "java/lang/Record").before a0 Z = true := hw _ (List.mem_of_getElem? (i := 96) rfl)
theorem wd_97 {Z : State} {a0 : Array Value} (hw : ∀ d ∈ tables_1, d.before a0 Z = true) : (Jvm.Cond.superclass "java/lang/Record" "java/lang/Object").before a0 Z = true := hw _ (List.mem_of_getElem? (i := 97) rfl)
theorem wd_98 {Z : State} {a0 : Array Value} (hw : ∀ d ∈ tables_1, d.before a0 Z = true) : (Jvm.Cond.noSuperclass "java/lang/Object").before a0 Z = true := hw _ (List.mem_of_getElem? (i := 98) rfl)
theorem wd_99 {Z : State} {a0 : Array Value} (hw : ∀ d ∈ tables_1, d.before a0 Z = true) : (Jvm.Cond.fieldLink "com/example/hustings/hustings/model/Wins" (29 : Nat) "com/example/hustings/hustings/model/Wins" "ties" "J").before a0 Z = true := hw _ (List.mem_of_getElem? (i := 99) rfl)
theorem wd_100 {Z : State} {a0 : Array Value} (hw : ∀ d ∈ tables_1, d.before a0 Z = true) : (Jvm.Cond.lays "com/example/hustings/hustings/model/Wins" "com/example/hustings/hustings/model/Wins" "ties" "J").before a0 Z = true := hw _ (List.mem_of_getElem? (i := 100) rfl)
theorem wd_101 {Z : State} {a0 : Array Value} (hw : ∀ d ∈ tables_1, d.before a0 Z = true) : (Jvm.Cond.fieldLink "com/example/hustings/hustings/model/WinsAddAllPinLaw" (28 : Nat) "com/example/hustings/hustings/model/Party" "YELLOW" "Lcom/example/hustings/hustings/model/Party;").before a0 Z = true := hw _ (List.mem_of_getElem? (i := 101) rfl)
theorem wd_102 {Z : State} {a0 : Array Value} (hw : ∀ d ∈ tables_1, d.before a0 Z = true) : (Jvm.Cond.fieldLink "com/example/hustings/hustings/model/WinsAddAllPinLaw" (25 : Nat) "com/example/hustings/hustings/model/Party" "BLUE" "Lcom/example/hustings/hustings/model/Party;").before a0 Z = true := hw _ (List.mem_of_getElem? (i := 102) rfl)
theorem wd_103 {Z : State} {a0 : Array Value} (hw : ∀ d ∈ tables_1, d.before a0 Z = true) : (Jvm.Cond.methodLink "com/example/hustings/hustings/model/WinsAddAllPinLaw" (45 : Nat) ({ cls := "com/example/hustings/hustings/model/Wins", name := "addAll", desc := "(Lcom/example/hustings/hustings/model/Wins;)V" } : Jvm.MethodName)).before a0 Z = true := hw _ (List.mem_of_getElem? (i := 103) rfl)
theorem wd_104 {Z : State} {a0 : Array Value} (hw : ∀ d ∈ tables_1, d.before a0 Z = true) : (Jvm.Cond.declares ({ cls := "com/example/hustings/hustings/model/Wins", name := "addAll", desc := "(Lcom/example/hustings/hustings/model/Wins;)V" } : Jvm.MethodName)).before a0 Z = true := hw _ (List.mem_of_getElem? (i := 104) rfl)
theorem wd_105 {Z : State} {a0 : Array Value} (hw : ∀ d ∈ tables_1, d.before a0 Z = true) : (Jvm.Cond.instanceMethod ({ cls := "com/example/hustings/hustings/model/Wins", name := "addAll", desc := "(Lcom/example/hustings/hustings/model/Wins;)V" } : Jvm.MethodName)).before a0 Z = true := hw _ (List.mem_of_getElem? (i := 105) rfl)
theorem wd_106 {Z : State} {a0 : Array Value} (hw : ∀ d ∈ tables_1, d.before a0 Z = true) : (Jvm.Cond.selects "com/example/hustings/hustings/model/Wins" ({ cls := "com/example/hustings/hustings/model/Wins", name := "addAll", desc := "(Lcom/example/hustings/hustings/model/Wins;)V" } : Jvm.MethodName) ({ cls := "com/example/hustings/hustings/model/Wins", name := "addAll", desc := "(Lcom/example/hustings/hustings/model/Wins;)V" } : Jvm.MethodName)).before a0 Z = true := hw _ (List.mem_of_getElem? (i := 106) rfl)
theorem wd_107 {Z : State} {a0 : Array Value} (hw : ∀ d ∈ tables_1, d.before a0 Z = true) : (Jvm.Cond.code ({ cls := "com/example/hustings/hustings/model/Wins", name := "addAll", desc := "(Lcom/example/hustings/hustings/model/Wins;)V" } : Jvm.MethodName) prog_32_method_3_code (3 : Nat) (Option.none : Option Jvm.ClassFile.FieldType)).before a0 Z = true := hw _ (List.mem_of_getElem? (i := 107) rfl)
theorem wd_108 {Z : State} {a0 : Array Value} (hw : ∀ d ∈ tables_1, d.before a0 Z = true) : (Jvm.Cond.methodLink "com/example/hustings/hustings/model/WinsAddAllPinLaw" (51 : Nat) ({ cls := "com/example/hustings/hustings/model/WinsAddAllPinLaw", name := "cnt", desc := "(III)J" } : Jvm.MethodName)).before a0 Z = true := hw _ (List.mem_of_getElem? (i := 108) rfl)
theorem wd_109 {Z : State} {a0 : Array Value} (hw : ∀ d ∈ tables_1, d.before a0 Z = true) : (Jvm.Cond.static ({ cls := "com/example/hustings/hustings/model/WinsAddAllPinLaw", name := "cnt", desc := "(III)J" } : Jvm.MethodName)).before a0 Z = true := hw _ (List.mem_of_getElem? (i := 109) rfl)
theorem wd_110 {Z : State} {a0 : Array Value} (hw : ∀ d ∈ tables_1, d.before a0 Z = true) : (Jvm.Cond.code ({ cls := "com/example/hustings/hustings/model/WinsAddAllPinLaw", name := "cnt", desc := "(III)J" } : Jvm.MethodName) method_4_code (5 : Nat) (Option.some Jvm.ClassFile.FieldType.long)).before a0 Z = true := hw _ (List.mem_of_getElem? (i := 110) rfl)
theorem wd_111 {Z : State} {a0 : Array Value} (hw : ∀ d ∈ tables_1, d.before a0 Z = true) : (Jvm.Cond.methodLink "com/example/hustings/hustings/model/WinsAddAllPinLaw" (55 : Nat) ({ cls := "com/example/hustings/hustings/model/Wins", name := "of", desc := "(Lcom/example/hustings/hustings/model/Party;)J" } : Jvm.MethodName)).before a0 Z = true := hw _ (List.mem_of_getElem? (i := 111) rfl)
theorem wd_112 {Z : State} {a0 : Array Value} (hw : ∀ d ∈ tables_1, d.before a0 Z = true) : (Jvm.Cond.declares ({ cls := "com/example/hustings/hustings/model/Wins", name := "of", desc := "(Lcom/example/hustings/hustings/model/Party;)J" } : Jvm.MethodName)).before a0 Z = true := hw _ (List.mem_of_getElem? (i := 112) rfl)
theorem wd_113 {Z : State} {a0 : Array Value} (hw : ∀ d ∈ tables_1, d.before a0 Z = true) : (Jvm.Cond.instanceMethod ({ cls := "com/example/hustings/hustings/model/Wins", name := "of", desc := "(Lcom/example/hustings/hustings/model/Party;)J" } : Jvm.MethodName)).before a0 Z = true := hw _ (List.mem_of_getElem? (i := 113) rfl)
theorem wd_114 {Z : State} {a0 : Array Value} (hw : ∀ d ∈ tables_1, d.before a0 Z = true) : (Jvm.Cond.selects "com/example/hustings/hustings/model/Wins" ({ cls := "com/example/hustings/hustings/model/Wins", name := "of", desc := "(Lcom/example/hustings/hustings/model/Party;)J" } : Jvm.MethodName) ({ cls := "com/example/hustings/hustings/model/Wins", name := "of", desc := "(Lcom/example/hustings/hustings/model/Party;)J" } : Jvm.MethodName)).before a0 Z = true := hw _ (List.mem_of_getElem? (i := 114) rfl)
theorem wd_115 {Z : State} {a0 : Array Value} (hw : ∀ d ∈ tables_1, d.before a0 Z = true) : (Jvm.Cond.code ({ cls := "com/example/hustings/hustings/model/Wins", name := "of", desc := "(Lcom/example/hustings/hustings/model/Party;)J" } : Jvm.MethodName) prog_32_method_5_code (2 : Nat) (Option.some Jvm.ClassFile.FieldType.long)).before a0 Z = true := hw _ (List.mem_of_getElem? (i := 115) rfl)
theorem wd_116 {Z : State} {a0 : Array Value} (hw : ∀ d ∈ tables_1, d.before a0 Z = true) : (Jvm.Cond.methodLink "com/example/hustings/hustings/model/WinsAddAllPinLaw" (59 : Nat) ({ cls := "com/example/hustings/hustings/model/Wins", name := "ties", desc := "()J" } : Jvm.MethodName)).before a0 Z = true := hw _ (List.mem_of_getElem? (i := 116) rfl)
theorem wd_117 {Z : State} {a0 : Array Value} (hw : ∀ d ∈ tables_1, d.before a0 Z = true) : (Jvm.Cond.declares ({ cls := "com/example/hustings/hustings/model/Wins", name := "ties", desc := "()J" } : Jvm.MethodName)).before a0 Z = true := hw _ (List.mem_of_getElem? (i := 117) rfl)
theorem wd_118 {Z : State} {a0 : Array Value} (hw : ∀ d ∈ tables_1, d.before a0 Z = true) : (Jvm.Cond.instanceMethod ({ cls := "com/example/hustings/hustings/model/Wins", name := "ties", desc := "()J" } : Jvm.MethodName)).before a0 Z = true := hw _ (List.mem_of_getElem? (i := 118) rfl)
theorem wd_119 {Z : State} {a0 : Array Value} (hw : ∀ d ∈ tables_1, d.before a0 Z = true) : (Jvm.Cond.selects "com/example/hustings/hustings/model/Wins" ({ cls := "com/example/hustings/hustings/model/Wins", name := "ties", desc := "()J" } : Jvm.MethodName) ({ cls := "com/example/hustings/hustings/model/Wins", name := "ties", desc := "()J" } : Jvm.MethodName)).before a0 Z = true := hw _ (List.mem_of_getElem? (i := 119) rfl)
theorem wd_120 {Z : State} {a0 : Array Value} (hw : ∀ d ∈ tables_1, d.before a0 Z = true) : (Jvm.Cond.code ({ cls := "com/example/hustings/hustings/model/Wins", name := "ties", desc := "()J" } : Jvm.MethodName) prog_32_method_6_code (1 : Nat) (Option.some Jvm.ClassFile.FieldType.long)).before a0 Z = true := hw _ (List.mem_of_getElem? (i := 120) rfl)
theorem wd_121 {Z : State} {a0 : Array Value} (hw : ∀ d ∈ tables_1, d.before a0 Z = true) : (Jvm.Cond.methodLink "com/example/hustings/hustings/model/WinsAddAllPinLaw" (63 : Nat) ({ cls := "com/example/hustings/hustings/model/Wins", name := "games", desc := "()J" } : Jvm.MethodName)).before a0 Z = true := hw _ (List.mem_of_getElem? (i := 121) rfl)
theorem wd_122 {Z : State} {a0 : Array Value} (hw : ∀ d ∈ tables_1, d.before a0 Z = true) : (Jvm.Cond.declares ({ cls := "com/example/hustings/hustings/model/Wins", name := "games", desc := "()J" } : Jvm.MethodName)).before a0 Z = true := hw _ (List.mem_of_getElem? (i := 122) rfl)
theorem wd_123 {Z : State} {a0 : Array Value} (hw : ∀ d ∈ tables_1, d.before a0 Z = true) : (Jvm.Cond.instanceMethod ({ cls := "com/example/hustings/hustings/model/Wins", name := "games", desc := "()J" } : Jvm.MethodName)).before a0 Z = true := hw _ (List.mem_of_getElem? (i := 123) rfl)
theorem wd_124 {Z : State} {a0 : Array Value} (hw : ∀ d ∈ tables_1, d.before a0 Z = true) : (Jvm.Cond.selects "com/example/hustings/hustings/model/Wins" ({ cls := "com/example/hustings/hustings/model/Wins", name := "games", desc := "()J" } : Jvm.MethodName) ({ cls := "com/example/hustings/hustings/model/Wins", name := "games", desc := "()J" } : Jvm.MethodName)).before a0 Z = true := hw _ (List.mem_of_getElem? (i := 124) rfl)
theorem wd_125 {Z : State} {a0 : Array Value} (hw : ∀ d ∈ tables_1, d.before a0 Z = true) : (Jvm.Cond.code ({ cls := "com/example/hustings/hustings/model/Wins", name := "games", desc := "()J" } : Jvm.MethodName) prog_32_method_4_code (8 : Nat) (Option.some Jvm.ClassFile.FieldType.long)).before a0 Z = true := hw _ (List.mem_of_getElem? (i := 125) rfl)
theorem wd_126 {Z : State} {a0 : Array Value} (hw : ∀ d ∈ tables_1, d.before a0 Z = true) : (Jvm.Cond.constantLong "com/example/hustings/hustings/model/WinsAddAllPinLaw" (49 : Nat) (2 : Int64)).before a0 Z = true := hw _ (List.mem_of_getElem? (i := 126) rfl)
theorem pd_0 : parseMethodDescriptor "()[Lcom/example/hustings/hustings/model/Party;" = some ⟨[], some (.array (.object "com/example/hustings/hustings/model/Party"))⟩ := by decide +kernel
theorem pd_1 : parseMethodDescriptor "()V" = some ⟨[], none⟩ := by decide +kernel
theorem pd_2 : parseMethodDescriptor "(Ljava/lang/Object;Ljava/lang/String;)Ljava/lang/Object;" = some ⟨[(.object "java/lang/Object"), (.object "java/lang/String")], some (.object "java/lang/Object")⟩ := by decide +kernel
theorem pd_3 : parseMethodDescriptor "()Lcom/example/hustings/hustings/model/Party;" = some ⟨[], some (.object "com/example/hustings/hustings/model/Party")⟩ := by decide +kernel
theorem pd_4 : parseMethodDescriptor "()I" = some ⟨[], some .int⟩ := by decide +kernel
theorem pd_5 : parseMethodDescriptor "(Lcom/example/hustings/hustings/model/Party;I)V" = some ⟨[(.object "com/example/hustings/hustings/model/Party"), .int], none⟩ := by decide +kernel
theorem pd_6 : parseMethodDescriptor "(Lcom/example/hustings/hustings/model/Outcome;)V" = some ⟨[(.object "com/example/hustings/hustings/model/Outcome")], none⟩ := by decide +kernel
theorem pd_7 : parseMethodDescriptor "(I)I" = some ⟨[.int], some .int⟩ := by decide +kernel
theorem pd_8 : parseMethodDescriptor "(Lcom/example/hustings/hustings/model/Wins;I)V" = some ⟨[(.object "com/example/hustings/hustings/model/Wins"), .int], none⟩ := by decide +kernel
theorem pd_9 : parseMethodDescriptor "(Lcom/example/hustings/hustings/model/Wins;)V" = some ⟨[(.object "com/example/hustings/hustings/model/Wins")], none⟩ := by decide +kernel
theorem pd_10 : parseMethodDescriptor "(III)J" = some ⟨[.int, .int, .int], some .long⟩ := by decide +kernel
theorem pd_11 : parseMethodDescriptor "(Lcom/example/hustings/hustings/model/Party;)J" = some ⟨[(.object "com/example/hustings/hustings/model/Party")], some .long⟩ := by decide +kernel
theorem pd_12 : parseMethodDescriptor "()J" = some ⟨[], some .long⟩ := by decide +kernel
theorem dc_jdk_30_method_1_code_0 : decode jdk_30_method_1_code 0 = .ok (.aload_n 0, 1) := by decide +kernel
theorem dc_jdk_30_method_1_code_1 : decode jdk_30_method_1_code 1 = .ok (.invokespecial 1, 3) := by decide +kernel
theorem dc_jdk_30_method_1_code_4 : decode jdk_30_method_1_code 4 = .ok (.return_, 1) := by decide +kernel
theorem dc_jdk_31_method_11_code_0 : decode jdk_31_method_11_code 0 = .ok (.aload_n 0, 1) := by decide +kernel
theorem dc_jdk_31_method_11_code_1 : decode jdk_31_method_11_code 1 = .ok (.ifnonnull 12, 3) := by decide +kernel
theorem dc_jdk_31_method_11_code_13 : decode jdk_31_method_11_code 13 = .ok (.aload_n 0, 1) := by decide +kernel
theorem dc_jdk_31_method_11_code_14 : decode jdk_31_method_11_code 14 = .ok (.areturn, 1) := by decide +kernel
theorem dc_jdk_37_method_2_code_0 : decode jdk_37_method_2_code 0 = .ok (.aload_n 0, 1) := by decide +kernel
theorem dc_jdk_37_method_2_code_1 : decode jdk_37_method_2_code 1 = .ok (.getfield 7, 3) := by decide +kernel
theorem dc_jdk_37_method_2_code_4 : decode jdk_37_method_2_code 4 = .ok (.ireturn, 1) := by decide +kernel
theorem dc_method_2_code_0 : decode method_2_code 0 = .ok (.iload_n 0, 1) := by decide +kernel
theorem dc_method_2_code_1 : decode method_2_code 1 = .ok (.ldc 7, 2) := by decide +kernel
theorem dc_method_2_code_3 : decode method_2_code 3 = .ok (.iand, 1) := by decide +kernel
theorem dc_method_2_code_4 : decode method_2_code 4 = .ok (.iconst 5, 1) := by decide +kernel
theorem dc_method_2_code_5 : decode method_2_code 5 = .ok (.irem, 1) := by decide +kernel
theorem dc_method_2_code_6 : decode method_2_code 6 = .ok (.ireturn, 1) := by decide +kernel
theorem dc_method_3_code_0 : decode method_3_code 0 = .ok (.iload_n 1, 1) := by decide +kernel
theorem dc_method_3_code_1 : decode method_3_code 1 = .ok (.ifCond .ne 21, 3) := by decide +kernel
theorem dc_method_3_code_4 : decode method_3_code 4 = .ok (.aload_n 0, 1) := by decide +kernel
theorem dc_method_3_code_5 : decode method_3_code 5 = .ok (.new 8, 3) := by decide +kernel
theorem dc_method_3_code_8 : decode method_3_code 8 = .ok (.dup, 1) := by decide +kernel
theorem dc_method_3_code_9 : decode method_3_code 9 = .ok (.getstatic 10, 3) := by decide +kernel
theorem dc_method_3_code_12 : decode method_3_code 12 = .ok (.iconst 1, 1) := by decide +kernel
theorem dc_method_3_code_13 : decode method_3_code 13 = .ok (.invokespecial 16, 3) := by decide +kernel
theorem dc_method_3_code_16 : decode method_3_code 16 = .ok (.invokevirtual 19, 3) := by decide +kernel
theorem dc_method_3_code_19 : decode method_3_code 19 = .ok (.goto 65, 3) := by decide +kernel
theorem dc_method_3_code_22 : decode method_3_code 22 = .ok (.iload_n 1, 1) := by decide +kernel
theorem dc_method_3_code_23 : decode method_3_code 23 = .ok (.iconst 1, 1) := by decide +kernel
theorem dc_method_3_code_24 : decode method_3_code 24 = .ok (.if_icmp .ne 21, 3) := by decide +kernel
theorem dc_method_3_code_27 : decode method_3_code 27 = .ok (.aload_n 0, 1) := by decide +kernel
theorem dc_method_3_code_28 : decode method_3_code 28 = .ok (.new 8, 3) := by decide +kernel
theorem dc_method_3_code_31 : decode method_3_code 31 = .ok (.dup, 1) := by decide +kernel
theorem dc_method_3_code_32 : decode method_3_code 32 = .ok (.getstatic 25, 3) := by decide +kernel
theorem dc_method_3_code_35 : decode method_3_code 35 = .ok (.iconst 1, 1) := by decide +kernel
theorem dc_method_3_code_36 : decode method_3_code 36 = .ok (.invokespecial 16, 3) := by decide +kernel
theorem dc_method_3_code_39 : decode method_3_code 39 = .ok (.invokevirtual 19, 3) := by decide +kernel
theorem dc_method_3_code_42 : decode method_3_code 42 = .ok (.goto 42, 3) := by decide +kernel
theorem dc_method_3_code_45 : decode method_3_code 45 = .ok (.iload_n 1, 1) := by decide +kernel
theorem dc_method_3_code_46 : decode method_3_code 46 = .ok (.iconst 2, 1) := by decide +kernel
theorem dc_method_3_code_47 : decode method_3_code 47 = .ok (.if_icmp .ne 21, 3) := by decide +kernel
theorem dc_method_3_code_50 : decode method_3_code 50 = .ok (.aload_n 0, 1) := by decide +kernel
theorem dc_method_3_code_51 : decode method_3_code 51 = .ok (.new 8, 3) := by decide +kernel
theorem dc_method_3_code_54 : decode method_3_code 54 = .ok (.dup, 1) := by decide +kernel
theorem dc_method_3_code_55 : decode method_3_code 55 = .ok (.getstatic 28, 3) := by decide +kernel
theorem dc_method_3_code_58 : decode method_3_code 58 = .ok (.iconst 1, 1) := by decide +kernel
theorem dc_method_3_code_59 : decode method_3_code 59 = .ok (.invokespecial 16, 3) := by decide +kernel
theorem dc_method_3_code_62 : decode method_3_code 62 = .ok (.invokevirtual 19, 3) := by decide +kernel
theorem dc_method_3_code_65 : decode method_3_code 65 = .ok (.goto 19, 3) := by decide +kernel
theorem dc_method_3_code_68 : decode method_3_code 68 = .ok (.iload_n 1, 1) := by decide +kernel
theorem dc_method_3_code_69 : decode method_3_code 69 = .ok (.iconst 3, 1) := by decide +kernel
theorem dc_method_3_code_70 : decode method_3_code 70 = .ok (.if_icmp .ne 14, 3) := by decide +kernel
theorem dc_method_3_code_73 : decode method_3_code 73 = .ok (.aload_n 0, 1) := by decide +kernel
theorem dc_method_3_code_74 : decode method_3_code 74 = .ok (.new 31, 3) := by decide +kernel
theorem dc_method_3_code_77 : decode method_3_code 77 = .ok (.dup, 1) := by decide +kernel
theorem dc_method_3_code_78 : decode method_3_code 78 = .ok (.invokespecial 33, 3) := by decide +kernel
theorem dc_method_3_code_81 : decode method_3_code 81 = .ok (.invokevirtual 19, 3) := by decide +kernel
theorem dc_method_3_code_84 : decode method_3_code 84 = .ok (.return_, 1) := by decide +kernel
theorem dc_method_4_code_0 : decode method_4_code 0 = .ok (.lconst 0, 1) := by decide +kernel
theorem dc_method_4_code_1 : decode method_4_code 1 = .ok (.lstore_n 3, 1) := by decide +kernel
theorem dc_method_4_code_2 : decode method_4_code 2 = .ok (.iload_n 0, 1) := by decide +kernel
theorem dc_method_4_code_3 : decode method_4_code 3 = .ok (.iload_n 2, 1) := by decide +kernel
theorem dc_method_4_code_4 : decode method_4_code 4 = .ok (.if_icmp .ne 7, 3) := by decide +kernel
theorem dc_method_4_code_7 : decode method_4_code 7 = .ok (.lload_n 3, 1) := by decide +kernel
theorem dc_method_4_code_8 : decode method_4_code 8 = .ok (.lconst 1, 1) := by decide +kernel
theorem dc_method_4_code_9 : decode method_4_code 9 = .ok (.ladd, 1) := by decide +kernel
theorem dc_method_4_code_10 : decode method_4_code 10 = .ok (.lstore_n 3, 1) := by decide +kernel
theorem dc_method_4_code_11 : decode method_4_code 11 = .ok (.iload_n 1, 1) := by decide +kernel
theorem dc_method_4_code_12 : decode method_4_code 12 = .ok (.iload_n 2, 1) := by decide +kernel
theorem dc_method_4_code_13 : decode method_4_code 13 = .ok (.if_icmp .ne 7, 3) := by decide +kernel
theorem dc_method_4_code_16 : decode method_4_code 16 = .ok (.lload_n 3, 1) := by decide +kernel
theorem dc_method_4_code_17 : decode method_4_code 17 = .ok (.lconst 1, 1) := by decide +kernel
theorem dc_method_4_code_18 : decode method_4_code 18 = .ok (.ladd, 1) := by decide +kernel
theorem dc_method_4_code_19 : decode method_4_code 19 = .ok (.lstore_n 3, 1) := by decide +kernel
theorem dc_method_4_code_20 : decode method_4_code 20 = .ok (.lload_n 3, 1) := by decide +kernel
theorem dc_method_4_code_21 : decode method_4_code 21 = .ok (.lreturn, 1) := by decide +kernel
theorem dc_prog_19_method_1_code_0 : decode prog_19_method_1_code 0 = .ok (.aload_n 0, 1) := by decide +kernel
theorem dc_prog_19_method_1_code_1 : decode prog_19_method_1_code 1 = .ok (.invokespecial 1, 3) := by decide +kernel
theorem dc_prog_19_method_1_code_4 : decode prog_19_method_1_code 4 = .ok (.return_, 1) := by decide +kernel
theorem dc_prog_20_method_1_code_0 : decode prog_20_method_1_code 0 = .ok (.aload_n 0, 1) := by decide +kernel
theorem dc_prog_20_method_1_code_1 : decode prog_20_method_1_code 1 = .ok (.invokespecial 1, 3) := by decide +kernel
theorem dc_prog_20_method_1_code_4 : decode prog_20_method_1_code 4 = .ok (.aload_n 1, 1) := by decide +kernel
theorem dc_prog_20_method_1_code_5 : decode prog_20_method_1_code 5 = .ok (.ldc 7, 2) := by decide +kernel
theorem dc_prog_20_method_1_code_7 : decode prog_20_method_1_code 7 = .ok (.invokestatic 9, 3) := by decide +kernel
theorem dc_prog_20_method_1_code_10 : decode prog_20_method_1_code 10 = .ok (.pop, 1) := by decide +kernel
theorem dc_prog_20_method_1_code_11 : decode prog_20_method_1_code 11 = .ok (.aload_n 0, 1) := by decide +kernel
theorem dc_prog_20_method_1_code_12 : decode prog_20_method_1_code 12 = .ok (.aload_n 1, 1) := by decide +kernel
theorem dc_prog_20_method_1_code_13 : decode prog_20_method_1_code 13 = .ok (.putfield 15, 3) := by decide +kernel
theorem dc_prog_20_method_1_code_16 : decode prog_20_method_1_code 16 = .ok (.aload_n 0, 1) := by decide +kernel
theorem dc_prog_20_method_1_code_17 : decode prog_20_method_1_code 17 = .ok (.iload_n 2, 1) := by decide +kernel
theorem dc_prog_20_method_1_code_18 : decode prog_20_method_1_code 18 = .ok (.putfield 20, 3) := by decide +kernel
theorem dc_prog_20_method_1_code_21 : decode prog_20_method_1_code 21 = .ok (.return_, 1) := by decide +kernel
theorem dc_prog_20_method_7_code_0 : decode prog_20_method_7_code 0 = .ok (.aload_n 0, 1) := by decide +kernel
theorem dc_prog_20_method_7_code_1 : decode prog_20_method_7_code 1 = .ok (.getfield 15, 3) := by decide +kernel
theorem dc_prog_20_method_7_code_4 : decode prog_20_method_7_code 4 = .ok (.areturn, 1) := by decide +kernel
theorem dc_prog_21_method_1_code_0 : decode prog_21_method_1_code 0 = .ok (.getstatic 13, 3) := by decide +kernel
theorem dc_prog_21_method_1_code_3 : decode prog_21_method_1_code 3 = .ok (.invokevirtual 17, 3) := by decide +kernel
theorem dc_prog_21_method_1_code_6 : decode prog_21_method_1_code 6 = .ok (.checkcast 18, 3) := by decide +kernel
theorem dc_prog_21_method_1_code_9 : decode prog_21_method_1_code 9 = .ok (.areturn, 1) := by decide +kernel
theorem dc_prog_32_method_1_code_0 : decode prog_32_method_1_code 0 = .ok (.aload_n 0, 1) := by decide +kernel
theorem dc_prog_32_method_1_code_1 : decode prog_32_method_1_code 1 = .ok (.invokespecial 1, 3) := by decide +kernel
theorem dc_prog_32_method_1_code_4 : decode prog_32_method_1_code 4 = .ok (.aload_n 0, 1) := by decide +kernel
theorem dc_prog_32_method_1_code_5 : decode prog_32_method_1_code 5 = .ok (.invokestatic 7, 3) := by decide +kernel
theorem dc_prog_32_method_1_code_8 : decode prog_32_method_1_code 8 = .ok (.arraylength, 1) := by decide +kernel
theorem dc_prog_32_method_1_code_9 : decode prog_32_method_1_code 9 = .ok (.newarray .long, 2) := by decide +kernel
theorem dc_prog_32_method_1_code_11 : decode prog_32_method_1_code 11 = .ok (.putfield 13, 3) := by decide +kernel
theorem dc_prog_32_method_1_code_14 : decode prog_32_method_1_code 14 = .ok (.return_, 1) := by decide +kernel
theorem dc_prog_32_method_2_code_0 : decode prog_32_method_2_code 0 = .ok (.aload_n 1, 1) := by decide +kernel
theorem dc_prog_32_method_2_code_1 : decode prog_32_method_2_code 1 = .ok (.instanceof 19, 3) := by decide +kernel
theorem dc_prog_32_method_2_code_4 : decode prog_32_method_2_code 4 = .ok (.ifCond .eq 27, 3) := by decide +kernel
theorem dc_prog_32_method_2_code_7 : decode prog_32_method_2_code 7 = .ok (.aload_n 1, 1) := by decide +kernel
theorem dc_prog_32_method_2_code_8 : decode prog_32_method_2_code 8 = .ok (.checkcast 19, 3) := by decide +kernel
theorem dc_prog_32_method_2_code_11 : decode prog_32_method_2_code 11 = .ok (.astore_n 2, 1) := by decide +kernel
theorem dc_prog_32_method_2_code_12 : decode prog_32_method_2_code 12 = .ok (.aload_n 0, 1) := by decide +kernel
theorem dc_prog_32_method_2_code_13 : decode prog_32_method_2_code 13 = .ok (.getfield 13, 3) := by decide +kernel
theorem dc_prog_32_method_2_code_16 : decode prog_32_method_2_code 16 = .ok (.aload_n 2, 1) := by decide +kernel
theorem dc_prog_32_method_2_code_17 : decode prog_32_method_2_code 17 = .ok (.invokevirtual 21, 3) := by decide +kernel
theorem dc_prog_32_method_2_code_20 : decode prog_32_method_2_code 20 = .ok (.invokevirtual 25, 3) := by decide +kernel
theorem dc_prog_32_method_2_code_23 : decode prog_32_method_2_code 23 = .ok (.dup2, 1) := by decide +kernel
theorem dc_prog_32_method_2_code_24 : decode prog_32_method_2_code 24 = .ok (.laload, 1) := by decide +kernel
theorem dc_prog_32_method_2_code_25 : decode prog_32_method_2_code 25 = .ok (.lconst 1, 1) := by decide +kernel
theorem dc_prog_32_method_2_code_26 : decode prog_32_method_2_code 26 = .ok (.ladd, 1) := by decide +kernel
theorem dc_prog_32_method_2_code_27 : decode prog_32_method_2_code 27 = .ok (.lastore, 1) := by decide +kernel
theorem dc_prog_32_method_2_code_28 : decode prog_32_method_2_code 28 = .ok (.goto 13, 3) := by decide +kernel
theorem dc_prog_32_method_2_code_31 : decode prog_32_method_2_code 31 = .ok (.aload_n 0, 1) := by decide +kernel
theorem dc_prog_32_method_2_code_32 : decode prog_32_method_2_code 32 = .ok (.dup, 1) := by decide +kernel
theorem dc_prog_32_method_2_code_33 : decode prog_32_method_2_code 33 = .ok (.getfield 29, 3) := by decide +kernel
theorem dc_prog_32_method_2_code_36 : decode prog_32_method_2_code 36 = .ok (.lconst 1, 1) := by decide +kernel
theorem dc_prog_32_method_2_code_37 : decode prog_32_method_2_code 37 = .ok (.ladd, 1) := by decide +kernel
theorem dc_prog_32_method_2_code_38 : decode prog_32_method_2_code 38 = .ok (.putfield 29, 3) := by decide +kernel
theorem dc_prog_32_method_2_code_41 : decode prog_32_method_2_code 41 = .ok (.return_, 1) := by decide +kernel
theorem dc_prog_32_method_3_code_0 : decode prog_32_method_3_code 0 = .ok (.iconst 0, 1) := by decide +kernel
theorem dc_prog_32_method_3_code_1 : decode prog_32_method_3_code 1 = .ok (.istore_n 2, 1) := by decide +kernel
theorem dc_prog_32_method_3_code_2 : decode prog_32_method_3_code 2 = .ok (.iload_n 2, 1) := by decide +kernel
theorem dc_prog_32_method_3_code_3 : decode prog_32_method_3_code 3 = .ok (.aload_n 0, 1) := by decide +kernel
theorem dc_prog_32_method_3_code_4 : decode prog_32_method_3_code 4 = .ok (.getfield 13, 3) := by decide +kernel
theorem dc_prog_32_method_3_code_7 : decode prog_32_method_3_code 7 = .ok (.arraylength, 1) := by decide +kernel
theorem dc_prog_32_method_3_code_8 : decode prog_32_method_3_code 8 = .ok (.if_icmp .ge 24, 3) := by decide +kernel
theorem dc_prog_32_method_3_code_11 : decode prog_32_method_3_code 11 = .ok (.aload_n 0, 1) := by decide +kernel
theorem dc_prog_32_method_3_code_12 : decode prog_32_method_3_code 12 = .ok (.getfield 13, 3) := by decide +kernel
theorem dc_prog_32_method_3_code_15 : decode prog_32_method_3_code 15 = .ok (.iload_n 2, 1) := by decide +kernel
theorem dc_prog_32_method_3_code_16 : decode prog_32_method_3_code 16 = .ok (.dup2, 1) := by decide +kernel
theorem dc_prog_32_method_3_code_17 : decode prog_32_method_3_code 17 = .ok (.laload, 1) := by decide +kernel
theorem dc_prog_32_method_3_code_18 : decode prog_32_method_3_code 18 = .ok (.aload_n 1, 1) := by decide +kernel
theorem dc_prog_32_method_3_code_19 : decode prog_32_method_3_code 19 = .ok (.getfield 13, 3) := by decide +kernel
theorem dc_prog_32_method_3_code_22 : decode prog_32_method_3_code 22 = .ok (.iload_n 2, 1) := by decide +kernel
theorem dc_prog_32_method_3_code_23 : decode prog_32_method_3_code 23 = .ok (.laload, 1) := by decide +kernel
theorem dc_prog_32_method_3_code_24 : decode prog_32_method_3_code 24 = .ok (.ladd, 1) := by decide +kernel
theorem dc_prog_32_method_3_code_25 : decode prog_32_method_3_code 25 = .ok (.lastore, 1) := by decide +kernel
theorem dc_prog_32_method_3_code_26 : decode prog_32_method_3_code 26 = .ok (.iinc 2 1, 3) := by decide +kernel
theorem dc_prog_32_method_3_code_29 : decode prog_32_method_3_code 29 = .ok (.goto (-27), 3) := by decide +kernel
theorem dc_prog_32_method_3_code_32 : decode prog_32_method_3_code 32 = .ok (.aload_n 0, 1) := by decide +kernel
theorem dc_prog_32_method_3_code_33 : decode prog_32_method_3_code 33 = .ok (.dup, 1) := by decide +kernel
theorem dc_prog_32_method_3_code_34 : decode prog_32_method_3_code 34 = .ok (.getfield 29, 3) := by decide +kernel
theorem dc_prog_32_method_3_code_37 : decode prog_32_method_3_code 37 = .ok (.aload_n 1, 1) := by decide +kernel
theorem dc_prog_32_method_3_code_38 : decode prog_32_method_3_code 38 = .ok (.getfield 29, 3) := by decide +kernel
theorem dc_prog_32_method_3_code_41 : decode prog_32_method_3_code 41 = .ok (.ladd, 1) := by decide +kernel
theorem dc_prog_32_method_3_code_42 : decode prog_32_method_3_code 42 = .ok (.putfield 29, 3) := by decide +kernel
theorem dc_prog_32_method_3_code_45 : decode prog_32_method_3_code 45 = .ok (.return_, 1) := by decide +kernel
theorem dc_prog_32_method_4_code_0 : decode prog_32_method_4_code 0 = .ok (.aload_n 0, 1) := by decide +kernel
theorem dc_prog_32_method_4_code_1 : decode prog_32_method_4_code 1 = .ok (.getfield 29, 3) := by decide +kernel
theorem dc_prog_32_method_4_code_4 : decode prog_32_method_4_code 4 = .ok (.lstore_n 1, 1) := by decide +kernel
theorem dc_prog_32_method_4_code_5 : decode prog_32_method_4_code 5 = .ok (.aload_n 0, 1) := by decide +kernel
theorem dc_prog_32_method_4_code_6 : decode prog_32_method_4_code 6 = .ok (.getfield 13, 3) := by decide +kernel
theorem dc_prog_32_method_4_code_9 : decode prog_32_method_4_code 9 = .ok (.astore_n 3, 1) := by decide +kernel
theorem dc_prog_32_method_4_code_10 : decode prog_32_method_4_code 10 = .ok (.aload_n 3, 1) := by decide +kernel
theorem dc_prog_32_method_4_code_11 : decode prog_32_method_4_code 11 = .ok (.arraylength, 1) := by decide +kernel
theorem dc_prog_32_method_4_code_12 : decode prog_32_method_4_code 12 = .ok (.istore 4, 2) := by decide +kernel
theorem dc_prog_32_method_4_code_14 : decode prog_32_method_4_code 14 = .ok (.iconst 0, 1) := by decide +kernel
theorem dc_prog_32_method_4_code_15 : decode prog_32_method_4_code 15 = .ok (.istore 5, 2) := by decide +kernel
theorem dc_prog_32_method_4_code_17 : decode prog_32_method_4_code 17 = .ok (.iload 5, 2) := by decide +kernel
theorem dc_prog_32_method_4_code_19 : decode prog_32_method_4_code 19 = .ok (.iload 4, 2) := by decide +kernel
theorem dc_prog_32_method_4_code_21 : decode prog_32_method_4_code 21 = .ok (.if_icmp .ge 20, 3) := by decide +kernel
theorem dc_prog_32_method_4_code_24 : decode prog_32_method_4_code 24 = .ok (.aload_n 3, 1) := by decide +kernel
theorem dc_prog_32_method_4_code_25 : decode prog_32_method_4_code 25 = .ok (.iload 5, 2) := by decide +kernel
theorem dc_prog_32_method_4_code_27 : decode prog_32_method_4_code 27 = .ok (.laload, 1) := by decide +kernel
theorem dc_prog_32_method_4_code_28 : decode prog_32_method_4_code 28 = .ok (.lstore 6, 2) := by decide +kernel
theorem dc_prog_32_method_4_code_30 : decode prog_32_method_4_code 30 = .ok (.lload_n 1, 1) := by decide +kernel
theorem dc_prog_32_method_4_code_31 : decode prog_32_method_4_code 31 = .ok (.lload 6, 2) := by decide +kernel
theorem dc_prog_32_method_4_code_33 : decode prog_32_method_4_code 33 = .ok (.ladd, 1) := by decide +kernel
theorem dc_prog_32_method_4_code_34 : decode prog_32_method_4_code 34 = .ok (.lstore_n 1, 1) := by decide +kernel
theorem dc_prog_32_method_4_code_35 : decode prog_32_method_4_code 35 = .ok (.iinc 5 1, 3) := by decide +kernel
theorem dc_prog_32_method_4_code_38 : decode prog_32_method_4_code 38 = .ok (.goto (-21), 3) := by decide +kernel
theorem dc_prog_32_method_4_code_41 : decode prog_32_method_4_code 41 = .ok (.lload_n 1, 1) := by decide +kernel
theorem dc_prog_32_method_4_code_42 : decode prog_32_method_4_code 42 = .ok (.lreturn, 1) := by decide +kernel
theorem dc_prog_32_method_5_code_0 : decode prog_32_method_5_code 0 = .ok (.aload_n 0, 1) := by decide +kernel
theorem dc_prog_32_method_5_code_1 : decode prog_32_method_5_code 1 = .ok (.getfield 13, 3) := by decide +kernel
theorem dc_prog_32_method_5_code_4 : decode prog_32_method_5_code 4 = .ok (.aload_n 1, 1) := by decide +kernel
theorem dc_prog_32_method_5_code_5 : decode prog_32_method_5_code 5 = .ok (.invokevirtual 25, 3) := by decide +kernel
theorem dc_prog_32_method_5_code_8 : decode prog_32_method_5_code 8 = .ok (.laload, 1) := by decide +kernel
theorem dc_prog_32_method_5_code_9 : decode prog_32_method_5_code 9 = .ok (.lreturn, 1) := by decide +kernel
theorem dc_prog_32_method_6_code_0 : decode prog_32_method_6_code 0 = .ok (.aload_n 0, 1) := by decide +kernel
theorem dc_prog_32_method_6_code_1 : decode prog_32_method_6_code 1 = .ok (.getfield 29, 3) := by decide +kernel
theorem dc_prog_32_method_6_code_4 : decode prog_32_method_6_code 4 = .ok (.lreturn, 1) := by decide +kernel
theorem own_eqI {args : Array Value} {first s : State} {o : Option Outcome} {idx : List Nat} {t : Term} {k : Int32} (h : (Jvm.Cond.eq t (.int k)).value args first o s idx = some true) : t.eval args first o idx s = some (.int k) := by
  simp only [Cond.value, Term.eval] at h
  cases ht : t.eval args first o idx s with
  | none => simp [ht] at h
  | some x => cases x <;> simp [ht] at h ⊢; exact h
def En_RED (Z : State) (h : Heap) (a : Addr) : Prop := Sta Z h "com/example/hustings/hustings/model/Party" "RED" "Lcom/example/hustings/hustings/model/Party;" (.ref a) ∧ Exa Z h a "com/example/hustings/hustings/model/Party" ∧ Fld Z h a "java/lang/Enum" "ordinal" "I" (.int (0 : Int32))
theorem En_RED.ext {Z : State} {h h' : Heap} {a : Addr} (F : En_RED Z h a) (E : Ext h h') : En_RED Z h' a := ⟨F.1.ext E, F.2.1.ext E, F.2.2.ext E⟩
def En_BLUE (Z : State) (h : Heap) (a : Addr) : Prop := Sta Z h "com/example/hustings/hustings/model/Party" "BLUE" "Lcom/example/hustings/hustings/model/Party;" (.ref a) ∧ Exa Z h a "com/example/hustings/hustings/model/Party" ∧ Fld Z h a "java/lang/Enum" "ordinal" "I" (.int (1 : Int32))
theorem En_BLUE.ext {Z : State} {h h' : Heap} {a : Addr} (F : En_BLUE Z h a) (E : Ext h h') : En_BLUE Z h' a := ⟨F.1.ext E, F.2.1.ext E, F.2.2.ext E⟩
def En_YELLOW (Z : State) (h : Heap) (a : Addr) : Prop := Sta Z h "com/example/hustings/hustings/model/Party" "YELLOW" "Lcom/example/hustings/hustings/model/Party;" (.ref a) ∧ Exa Z h a "com/example/hustings/hustings/model/Party" ∧ Fld Z h a "java/lang/Enum" "ordinal" "I" (.int (2 : Int32))
theorem En_YELLOW.ext {Z : State} {h h' : Heap} {a : Addr} (F : En_YELLOW Z h a) (E : Ext h h') : En_YELLOW Z h' a := ⟨F.1.ext E, F.2.1.ext E, F.2.2.ext E⟩
theorem own_eqR {args : Array Value} {first s : State} {o : Option Outcome} {idx : List Nat} {t u : Term} {a : Addr} (h : (Jvm.Cond.eq t u).value args first o s idx = some true) (hu : u.eval args first o idx s = some (.ref a)) : t.eval args first o idx s = some (.ref a) := by
  simp only [Cond.value, hu] at h
  cases ht : t.eval args first o idx s with
  | none => simp [ht] at h
  | some x => cases x <;> simp [ht] at h ⊢; exact h
theorem own_len {args : Array Value} {s : State} {t : Term} {n : Int32} {a : Addr} {cl : Cell} (N : Nat) (h : (Term.length t).eval args s none [] s = some (.int n)) (ht : t.eval args s none [] s = some (.ref a)) (hc : s.heap[a]? = some cl) (hn : n.toInt = N) : cl.slots.size = N := by
  simp only [Term.eval, ht, Option.bind_eq_bind, Option.bind_some] at h
  obtain ⟨cell, hcell, h⟩ := Option.bind_eq_some_iff.mp h
  cases hc.symm.trans (State.arrayAt?_spec hcell).1
  by_cases hs : cl.slots.size < 2147483648
  · rw [if_pos hs] at h
    have q : cl.slots.size.toInt32 = n := by cases h; rfl
    have z := len_toInt (n := cl.slots.size) hs
    rw [q, hn] at z
    omega
  · rw [if_neg hs] at h; cases h
theorem own_elem {args : Array Value} {s : State} {t : Term} {j : Int32} {v : Value} {a : Addr} {cl : Cell} (i : Nat) (h : (Term.elem t (.int j)).eval args s none [] s = some v) (ht : t.eval args s none [] s = some (.ref a)) (hc : s.heap[a]? = some cl) (hi : j.toNatClampNeg = i) : cl.slots[i]? = some v := by
  subst hi
  exact (elem_in h ht (Term.int_eval j) hc).2
theorem own_list3 {L : Array Value} {v0 v1 v2 : Value} (hl : L.size = 3) (h0 : L[0]? = some v0) (h1 : L[1]? = some v1) (h2 : L[2]? = some v2) : L.toList = [v0, v1, v2] := by
  obtain ⟨L⟩ := L
  match L, hl with
  | [x0, x1, x2], _ =>
    simp at h0 h1 h2
    simp [h0, h1, h2]
theorem own_noinst {Z : State} {a0 : Array Value} {C S O K : String} {n : Nat} (w1 : (Jvm.Cond.superclass C S).before a0 Z = true) (w2 : (Jvm.Cond.superclass S O).before a0 Z = true) (w3 : (Jvm.Cond.noSuperclass O).before a0 Z = true) (wi : (Jvm.Cond.instantiable K n).before a0 Z = true) (n1 : C ≠ K) (n2 : S ≠ K) (n3 : O ≠ K) : ∃ c t, Z.vm.findClass C = some c ∧ Z.vm.findClass K = some t ∧ Z.vm.assignable c t = false := by
  obtain ⟨t, kt, g0, g2, g5, g70, -⟩ := Cond.instantiable_spec wi
  have g7 := (Bool.or_eq_false_iff.mp g70).1
  have r : NS Z O K := by
    obtain ⟨c, k, h1, h2, h3, -, -⟩ := Cond.noSuperclass_spec w3
    have ne := ids_ne h1 g0 n3
    refine ⟨c, t, h1, g0, fun fuel => ?_⟩
    cases fuel with
    | zero => rfl
    | succ f => simp [Vm.isSubclassAux, ne, h2, h3]
  obtain ⟨c, t', h0, g0', n3⟩ := NS.step w1 (NS.step w2 r n2) n1
  cases g0.symm.trans g0'
  obtain ⟨p, k, kp, h1, h2, h3, h4, h5, -, h7⟩ := Cond.superclass_spec h0 w1
  have ne := ids_ne h0 g0 n1
  refine ⟨c, t, h0, g0, ?_⟩
  show Z.vm.assignableAux (255 + 1) c t = false
  simp [Vm.assignableAux, ne, h2, g2, h5, g5, g7, Vm.isSubclass, n3]
theorem own_refEq {Z : State} {h : Heap} {a : Addr} {O n d : String} {v w : Int32} (F : Fld Z h a O n d (.int v)) (e : w = v) : Fld Z h a O n d (.int w) := e ▸ F
def WinsAt (Z : State) (h : Heap) (b w : Addr) (k : ClassId) (c0 c1 c2 t : Int64) : Prop := Exa Z h b "com/example/hustings/hustings/model/Wins" ∧ Fld Z h b "com/example/hustings/hustings/model/Wins" "won" "[J" (.ref w) ∧ Fld Z h b "com/example/hustings/hustings/model/Wins" "ties" "J" (.long t) ∧ Ar Z h w .long k [.long c0, .long c1, .long c2]
theorem WinsAt.keep {Z : State} {h h' : Heap} {b w : Addr} {k : ClassId} {c0 c1 c2 t : Int64} {ws : List Addr} (F : WinsAt Z h b w k c0 c1 c2 t) (K : Keep h h' ws) (n1 : b ∉ ws) (n2 : w ∉ ws) : WinsAt Z h' b w k c0 c1 c2 t := ⟨F.1.keep K, F.2.1.keep K n1, F.2.2.1.keep K n1, F.2.2.2.keep K n2⟩
theorem WinsAt.ext {Z : State} {h h' : Heap} {b w : Addr} {k : ClassId} {c0 c1 c2 t : Int64} (F : WinsAt Z h b w k c0 c1 c2 t) (E : Ext h h') : WinsAt Z h' b w k c0 c1 c2 t := ⟨F.1.ext E, F.2.1.ext E, F.2.2.1.ext E, F.2.2.2.ext E⟩
theorem wS {Z : State} {a0 : Array Value} (hw : ∀ d ∈ tables_1, d.before a0 Z = true) : ∀ a ∈ Bundle.stringAtoms, a.before a0 Z = true := by
  intro d hd
  simp only [Bundle.stringAtoms, List.mem_cons, List.not_mem_nil, or_false] at hd
  rcases hd with rfl | rfl | rfl | rfl | rfl | rfl | rfl
  all_goals first | exact (wd_53 hw) | exact (wd_54 hw) | exact (wd_55 hw) | exact (wd_56 hw) | exact (wd_57 hw) | exact (wd_58 hw) | exact (wd_59 hw)
set_option maxRecDepth 65536 in
set_option maxHeartbeats 4000000 in
theorem record_met (l : Launch) (Z : State) (a0 : Array Value) (hw : ∀ d ∈ tables_1, d.before a0 Z = true) (n0 : Nat) (h : Heap) (O : Old Z n0 h) (b : Addr) :
    Met l Z n0 (⟨"java/lang/Record", "<init>", "()V"⟩ : MethodName) jdk_30_method_1_code 1 none [] ({ frames := 1, cells := 0, slots := 0, locals := 12 } : Room) #[(.ref b)] h (fun v h' => v = none ∧ h = h') := by
  refine met_of (Ls := #[(.val (.ref b))]) (by decide +kernel) (fun m => by first | (simp [entryFrame, mkF, argsToLocals, Value.category]; done) | rfl) O ?_
  intro p e s m below meth cd C
  refine go_aloadN C (pc' := 1) dc_jdk_30_method_1_code_0 rfl rfl rfl ?_
  refine go_initO C (pc' := 4) (wd_51 hw) (wd_12 hw) (wd_13 hw) rfl dc_jdk_30_method_1_code_1 rfl (by decide) (by decide) ?_
  exact go_ret0 C dc_jdk_30_method_1_code_4 (by decide) (by decide) ⟨rfl, rfl⟩
set_option maxRecDepth 65536 in
set_option maxHeartbeats 4000000 in
theorem rnn_met (l : Launch) (Z : State) (a0 : Array Value) (hw : ∀ d ∈ tables_1, d.before a0 Z = true) (n0 : Nat) (h : Heap) (O : Old Z n0 h) (b t : Addr) :
    Met l Z n0 (⟨"java/util/Objects", "requireNonNull", "(Ljava/lang/Object;Ljava/lang/String;)Ljava/lang/Object;"⟩ : MethodName) jdk_31_method_11_code 2 (some (.object "java/lang/Object")) [] ({ frames := 0, cells := 0, slots := 0, locals := 0 } : Room) #[(.ref b), (.ref t)] h (fun v h' => v = some (.ref b) ∧ h = h') := by
  refine met_of (Ls := #[(.val (.ref b)), (.val (.ref t))]) (by decide +kernel) (fun m => by first | (simp [entryFrame, mkF, argsToLocals, Value.category]; done) | rfl) O ?_
  intro p e s m below meth cd C
  refine go_aloadN C (pc' := 1) dc_jdk_31_method_11_code_0 rfl rfl rfl ?_
  refine go_ifnonnullYes C (pc' := 13) dc_jdk_31_method_11_code_1 (by decide) (by decide) ?_
  refine go_aloadN C (pc' := 14) dc_jdk_31_method_11_code_13 rfl rfl rfl ?_
  exact go_retA C rfl rfl dc_jdk_31_method_11_code_14 (by decide) (by decide) ⟨rfl, rfl⟩
set_option maxRecDepth 65536 in
set_option maxHeartbeats 4000000 in
theorem values_met (l : Launch) (Z : State) (a0 : Array Value) (hw : ∀ d ∈ tables_1, d.before a0 Z = true) (n0 : Nat) (h : Heap) (O : Old Z n0 h) {a_RED : Addr} (EnRED : En_RED Z Z.heap a_RED) {a_BLUE : Addr} (EnBLUE : En_BLUE Z Z.heap a_BLUE) {a_YELLOW : Addr} (EnYELLOW : En_YELLOW Z Z.heap a_YELLOW) {a__VALUES : Addr} {k__VALUES : ClassId} (S__VALUES : Sta Z Z.heap "com/example/hustings/hustings/model/Party" "$VALUES" "[Lcom/example/hustings/hustings/model/Party;" (.ref a__VALUES)) (A__VALUES : Ar Z Z.heap a__VALUES (.object "com/example/hustings/hustings/model/Party") k__VALUES [(.ref a_RED), (.ref a_BLUE), (.ref a_YELLOW)]) (EnVAL : Exa Z Z.heap a__VALUES "[Lcom/example/hustings/hustings/model/Party;") :
    Met l Z n0 (⟨"com/example/hustings/hustings/model/Party", "values", "()[Lcom/example/hustings/hustings/model/Party;"⟩ : MethodName) prog_21_method_1_code 0 (some (.array (.object "com/example/hustings/hustings/model/Party"))) [] ({ frames := 1, cells := 1, slots := 3, locals := 14 } : Room) #[] h (fun v h' => ∃ b k, v = some (.ref b) ∧ Keep h h' [] ∧ Ar Z h' b (.object "com/example/hustings/hustings/model/Party") k [(.ref a_RED), (.ref a_BLUE), (.ref a_YELLOW)]) := by
  refine met_of (Ls := #[]) (by decide +kernel) (fun m => by first | (simp [entryFrame, mkF, argsToLocals, Value.category]; done) | rfl) O ?_
  intro p e s m below meth cd C
  refine go_getS C (pc' := 3) (host := "") (Or.inl (wd_18 hw)) Via.refl (S__VALUES.ext O.2) dc_prog_21_method_1_code_0 rfl ?_
  refine go_clone C (pc' := 6) (wd_20 hw) (wd_21 hw) (wd_25 hw) (wd_23 hw) (wd_24 hw) (wd_26 hw) (A__VALUES.ext O.2) (EnVAL.ext O.2) (by simp [fits]) rfl dc_prog_21_method_1_code_3 rfl (by decide) (W := 0) (by decide) (by decide) (len := 3) rfl (by decide) (by decide) ?_
  intro h1 b1 g1 n1 E1 A1 X1
  have sz_b1 := Nat.le_trans (Nat.le_refl _) (Nat.le_of_eq g1.symm)
  have ne_a_RED_b1 : a_RED ≠ b1 := Nat.ne_of_lt (by rw [g1]; exact (EnRED.2.1.ext O.2).lt)
  have ne_a_BLUE_b1 : a_BLUE ≠ b1 := Nat.ne_of_lt (by rw [g1]; exact (EnBLUE.2.1.ext O.2).lt)
  have ne_a_YELLOW_b1 : a_YELLOW ≠ b1 := Nat.ne_of_lt (by rw [g1]; exact (EnYELLOW.2.1.ext O.2).lt)
  have ne_a__VALUES_b1 : a__VALUES ≠ b1 := Nat.ne_of_lt (by rw [g1]; exact (A__VALUES.ext O.2).lt)
  refine go_old fun O1 => ?_
  refine go_castY C (pc' := 9) (wd_31 hw) (Ins.self X1) dc_prog_21_method_1_code_6 rfl ?_
  exact go_retA C rfl rfl dc_prog_21_method_1_code_9 (by decide) (by decide) ⟨b1, _, rfl, ((Keep.refl _ []).ext E1), A1⟩
set_option maxRecDepth 65536 in
set_option maxHeartbeats 4000000 in
theorem winit_met (l : Launch) (Z : State) (a0 : Array Value) (hw : ∀ d ∈ tables_1, d.before a0 Z = true) (n0 : Nat) (h : Heap) (O : Old Z n0 h) (b : Addr) {a_RED : Addr} (EnRED : En_RED Z Z.heap a_RED) {a_BLUE : Addr} (EnBLUE : En_BLUE Z Z.heap a_BLUE) {a_YELLOW : Addr} (EnYELLOW : En_YELLOW Z Z.heap a_YELLOW) {a__VALUES : Addr} {k__VALUES : ClassId} (S__VALUES : Sta Z Z.heap "com/example/hustings/hustings/model/Party" "$VALUES" "[Lcom/example/hustings/hustings/model/Party;" (.ref a__VALUES)) (A__VALUES : Ar Z Z.heap a__VALUES (.object "com/example/hustings/hustings/model/Party") k__VALUES [(.ref a_RED), (.ref a_BLUE), (.ref a_YELLOW)]) (EnVAL : Exa Z Z.heap a__VALUES "[Lcom/example/hustings/hustings/model/Party;") (E_b : Exa Z h b "com/example/hustings/hustings/model/Wins") (F_b_won : Fld Z h b "com/example/hustings/hustings/model/Wins" "won" "[J" .null) (F_b_ties : Fld Z h b "com/example/hustings/hustings/model/Wins" "ties" "J" (.long (0 : Int64))) (nb : n0 ≤ b) :
    Met l Z n0 (⟨"com/example/hustings/hustings/model/Wins", "<init>", "()V"⟩ : MethodName) prog_32_method_1_code 1 none [] ({ frames := 2, cells := 2, slots := 6, locals := 26 } : Room) #[(.ref b)] h (fun v h' => ∃ w k, v = none ∧ Keep h h' [b] ∧ h.size ≤ w ∧ n0 ≤ w ∧ w ≠ b ∧ WinsAt Z h' b w k 0 0 0 0) := by
  refine met_of (Ls := #[(.val (.ref b))]) (by decide +kernel) (fun m => by first | (simp [entryFrame, mkF, argsToLocals, Value.category]; done) | rfl) O ?_
  intro p e s m below meth cd C
  refine go_aloadN C (pc' := 1) dc_prog_32_method_1_code_0 rfl rfl rfl ?_
  refine go_initO C (pc' := 4) (wd_11 hw) (wd_12 hw) (wd_13 hw) rfl dc_prog_32_method_1_code_1 rfl (by decide) (by decide) ?_
  refine go_aloadN C (pc' := 5) dc_prog_32_method_1_code_4 rfl rfl rfl ?_
  refine go_callS C (pc' := 8) (y' := (⟨"com/example/hustings/hustings/model/Party", "values", "()[Lcom/example/hustings/hustings/model/Party;"⟩ : MethodName)) (wd_14 hw) (wd_15 hw) (values_met l Z a0 hw _ _ O EnRED EnBLUE EnYELLOW S__VALUES A__VALUES EnVAL) (wd_17 hw) (wd_16 hw) (by decide) (by decide) (W := 1) (Nat.le_of_ble_eq_true rfl) (by decide) (by decide) (by decide) rfl (argsL := []) (rest := [(.ref b)]) pd_0 rfl rfl rfl dc_prog_32_method_1_code_5 rfl ?_
  rintro _ h1 ⟨q, kq, rfl, K1, A1⟩
  refine go_st (st' := [(.ref q), (.ref b)]) rfl ?_
  refine go_old fun O1 => ?_
  refine go_alen C (pc' := 9) A1 (z := (3 : Int32)) rfl dc_prog_32_method_1_code_8 rfl ?_
  refine go_newPA C (pc' := 11) (len := 3) (ty := .long) rfl (wd_33 hw) dc_prog_32_method_1_code_9 rfl (by decide) (by decide) (by decide) (by decide) (by decide) ?_
  intro h2 b2 k2 g2 n2 E2 A2
  have sz_b2 := Nat.le_trans (Nat.le_trans (Nat.le_refl _) K1.1) (Nat.le_of_eq g2.symm)
  have ne_b_b2 : b ≠ b2 := Nat.ne_of_lt (by rw [g2]; exact (E_b.keep K1).lt)
  have ne_a_RED_b2 : a_RED ≠ b2 := Nat.ne_of_lt (by rw [g2]; exact (EnRED.2.1.ext O1.2).lt)
  have ne_a_BLUE_b2 : a_BLUE ≠ b2 := Nat.ne_of_lt (by rw [g2]; exact (EnBLUE.2.1.ext O1.2).lt)
  have ne_a_YELLOW_b2 : a_YELLOW ≠ b2 := Nat.ne_of_lt (by rw [g2]; exact (EnYELLOW.2.1.ext O1.2).lt)
  have ne_q_b2 : q ≠ b2 := Nat.ne_of_lt (by rw [g2]; exact A1.lt)
  refine go_old fun O2 => ?_
  refine go_putF C (pc' := 14) (host := "") (Or.inl (wd_34 hw)) Via.refl ((F_b_won.keep K1 nin0).ext E2) ((E_b.keep K1).ext E2) (Or.inr ⟨(wd_35 hw), rfl, rfl⟩) (wd_6 hw) (ty := (.array .long)) (by decide) rfl rfl dc_prog_32_method_1_code_11 rfl nb ?_
  intro h3 W3 F3
  refine go_old fun O3 => ?_
  exact go_ret0 C dc_prog_32_method_1_code_14 (by decide) (by decide) ⟨b2, _, rfl, ((((Keep.refl _ [b]).trans K1 all0).ext E2).wr W3 (Or.inl (by simp))), sz_b2, n2, (Ne.symm ne_b_b2), ⟨(((E_b.keep K1).ext E2).wr W3), F3, (((F_b_ties.keep K1 nin0).ext E2).other W3 (Or.inr (slot_ne (a0 := a0) (Or.inl (wd_100 hw)) (Or.inr (wd_35 hw)) (by decide) (t := .long) (t' := (.array .long)) (by decide) (by decide)))), (A2.other W3 (Ne.symm ne_b_b2))⟩⟩
set_option maxRecDepth 65536 in
set_option maxHeartbeats 4000000 in
theorem won_met (l : Launch) (Z : State) (a0 : Array Value) (hw : ∀ d ∈ tables_1, d.before a0 Z = true) (n0 : Nat) (h : Heap) (O : Old Z n0 h) (b q : Addr) (i : Int32) (E_b : Exa Z h b "com/example/hustings/hustings/model/Outcome$Won") (F_b_winner : Fld Z h b "com/example/hustings/hustings/model/Outcome$Won" "winner" "Lcom/example/hustings/hustings/model/Party;" .null) (F_b_decidedBy : Fld Z h b "com/example/hustings/hustings/model/Outcome$Won" "decidedBy" "I" (.int (0 : Int32))) (nb : n0 ≤ b) :
    Met l Z n0 (⟨"com/example/hustings/hustings/model/Outcome$Won", "<init>", "(Lcom/example/hustings/hustings/model/Party;I)V"⟩ : MethodName) prog_20_method_1_code 3 none [] ({ frames := 2, cells := 2, slots := 28, locals := 24 } : Room) #[(.ref b), (.ref q), (.int i)] h (fun v h' => v = none ∧ Keep h h' [b] ∧ Fld Z h' b "com/example/hustings/hustings/model/Outcome$Won" "winner" "Lcom/example/hustings/hustings/model/Party;" (.ref q)) := by
  refine met_of (Ls := #[(.val (.ref b)), (.val (.ref q)), (.val (.int i))]) (by decide +kernel) (fun m => by first | (simp [entryFrame, mkF, argsToLocals, Value.category]; done) | rfl) O ?_
  intro p e s m below meth cd C
  refine go_aloadN C (pc' := 1) dc_prog_20_method_1_code_0 rfl rfl rfl ?_
  refine go_callC C (pc' := 4) (y' := (⟨"java/lang/Record", "<init>", "()V"⟩ : MethodName)) (wd_46 hw) (wd_47 hw) rfl rfl (record_met l Z a0 hw _ _ O b) (wd_50 hw) (wd_49 hw) (by decide) (by decide) (W := 0) (Nat.le_of_ble_eq_true rfl) (by decide) (by decide) (by decide) rfl (a := b) (argsL := []) (rest := []) pd_1 rfl rfl rfl dc_prog_20_method_1_code_1 rfl ?_
  rintro _ _ ⟨rfl, rfl⟩
  refine go_st (st' := []) rfl ?_
  refine go_aloadN C (pc' := 5) dc_prog_20_method_1_code_4 rfl rfl rfl ?_
  refine go_ldcS C (pc' := 7) (n := 24) (wd_52 hw) (wS hw) dc_prog_20_method_1_code_5 rfl (by decide) (by decide) (by decide) (by decide) ?_
  intro h1 t1 E1
  refine go_old fun O1 => ?_
  refine go_callS C (pc' := 10) (y' := (⟨"java/util/Objects", "requireNonNull", "(Ljava/lang/Object;Ljava/lang/String;)Ljava/lang/Object;"⟩ : MethodName)) (wd_60 hw) (wd_61 hw) (rnn_met l Z a0 hw _ _ O1 q t1) (wd_63 hw) (wd_62 hw) (by decide) (by decide) (W := 0) (Nat.le_of_ble_eq_true rfl) (by decide) (by decide) (by decide) rfl (argsL := [(.ref q), (.ref t1)]) (rest := []) pd_2 rfl rfl rfl dc_prog_20_method_1_code_7 rfl ?_
  rintro _ _ ⟨rfl, rfl⟩
  refine go_st (st' := [(.ref q)]) rfl ?_
  refine go_pop C (pc' := 11) dc_prog_20_method_1_code_10 rfl rfl ?_
  refine go_aloadN C (pc' := 12) dc_prog_20_method_1_code_11 rfl rfl rfl ?_
  refine go_aloadN C (pc' := 13) dc_prog_20_method_1_code_12 rfl rfl rfl ?_
  refine go_putF C (pc' := 16) (host := "") (Or.inl (wd_64 hw)) Via.refl (F_b_winner.ext E1) (E_b.ext E1) (Or.inr ⟨(wd_65 hw), rfl, rfl⟩) (wd_40 hw) (ty := (.object "com/example/hustings/hustings/model/Party")) (by decide) rfl rfl dc_prog_20_method_1_code_13 rfl nb ?_
  intro h2 W2 F2
  refine go_old fun O2 => ?_
  refine go_aloadN C (pc' := 17) dc_prog_20_method_1_code_16 rfl rfl rfl ?_
  refine go_iloadN C (pc' := 18) dc_prog_20_method_1_code_17 rfl rfl ?_
  refine go_putF C (pc' := 21) (host := "") (Or.inl (wd_66 hw)) Via.refl ((F_b_decidedBy.ext E1).other W2 (Or.inr (slot_ne (a0 := a0) (Or.inr (wd_67 hw)) (Or.inr (wd_65 hw)) (by decide) (t := .int) (t' := (.object "com/example/hustings/hustings/model/Party")) (by decide) (by decide)))) ((E_b.ext E1).wr W2) (Or.inr ⟨(wd_67 hw), rfl, rfl⟩) (wd_40 hw) (ty := .int) (by decide) rfl rfl dc_prog_20_method_1_code_18 rfl nb ?_
  intro h3 W3 F3
  refine go_old fun O3 => ?_
  exact go_ret0 C dc_prog_20_method_1_code_21 (by decide) (by decide) ⟨rfl, ((((Keep.refl _ [b]).ext E1).wr W2 (Or.inl (by simp))).wr W3 (Or.inl (by simp))), (F2.other W3 (Or.inr (slot_ne (a0 := a0) (Or.inr (wd_65 hw)) (Or.inr (wd_67 hw)) (by decide) (t := (.object "com/example/hustings/hustings/model/Party")) (t' := .int) (by decide) (by decide))))⟩
set_option maxRecDepth 65536 in
set_option maxHeartbeats 4000000 in
theorem tie_met (l : Launch) (Z : State) (a0 : Array Value) (hw : ∀ d ∈ tables_1, d.before a0 Z = true) (n0 : Nat) (h : Heap) (O : Old Z n0 h) (b : Addr) :
    Met l Z n0 (⟨"com/example/hustings/hustings/model/Outcome$Tie", "<init>", "()V"⟩ : MethodName) prog_19_method_1_code 1 none [] ({ frames := 2, cells := 0, slots := 0, locals := 24 } : Room) #[(.ref b)] h (fun v h' => v = none ∧ h = h') := by
  refine met_of (Ls := #[(.val (.ref b))]) (by decide +kernel) (fun m => by first | (simp [entryFrame, mkF, argsToLocals, Value.category]; done) | rfl) O ?_
  intro p e s m below meth cd C
  refine go_aloadN C (pc' := 1) dc_prog_19_method_1_code_0 rfl rfl rfl ?_
  refine go_callC C (pc' := 4) (y' := (⟨"java/lang/Record", "<init>", "()V"⟩ : MethodName)) (wd_95 hw) (wd_47 hw) rfl rfl (record_met l Z a0 hw _ _ O b) (wd_50 hw) (wd_49 hw) (by decide) (by decide) (W := 0) (Nat.le_of_ble_eq_true rfl) (by decide) (by decide) (by decide) rfl (a := b) (argsL := []) (rest := []) pd_1 rfl rfl rfl dc_prog_19_method_1_code_1 rfl ?_
  rintro _ _ ⟨rfl, rfl⟩
  refine go_st (st' := []) rfl ?_
  exact go_ret0 C dc_prog_19_method_1_code_4 (by decide) (by decide) ⟨rfl, rfl⟩
set_option maxRecDepth 65536 in
set_option maxHeartbeats 4000000 in
theorem winner_met (l : Launch) (Z : State) (a0 : Array Value) (hw : ∀ d ∈ tables_1, d.before a0 Z = true) (n0 : Nat) (h : Heap) (O : Old Z n0 h) (b q : Addr) (F : Fld Z h b "com/example/hustings/hustings/model/Outcome$Won" "winner" "Lcom/example/hustings/hustings/model/Party;" (.ref q)) :
    Met l Z n0 (⟨"com/example/hustings/hustings/model/Outcome$Won", "winner", "()Lcom/example/hustings/hustings/model/Party;"⟩ : MethodName) prog_20_method_7_code 1 (some (.object "com/example/hustings/hustings/model/Party")) [] ({ frames := 0, cells := 0, slots := 0, locals := 0 } : Room) #[(.ref b)] h (fun v h' => v = some (.ref q) ∧ h = h') := by
  refine met_of (Ls := #[(.val (.ref b))]) (by decide +kernel) (fun m => by first | (simp [entryFrame, mkF, argsToLocals, Value.category]; done) | rfl) O ?_
  intro p e s m below meth cd C
  refine go_aloadN C (pc' := 1) dc_prog_20_method_7_code_0 rfl rfl rfl ?_
  refine go_getF C (pc' := 4) (host := "") (Or.inl (wd_64 hw)) Via.refl F dc_prog_20_method_7_code_1 rfl ?_
  exact go_retA C rfl rfl dc_prog_20_method_7_code_4 (by decide) (by decide) ⟨rfl, rfl⟩
set_option maxRecDepth 65536 in
set_option maxHeartbeats 4000000 in
theorem ordinal_met (l : Launch) (Z : State) (a0 : Array Value) (hw : ∀ d ∈ tables_1, d.before a0 Z = true) (n0 : Nat) (h : Heap) (O : Old Z n0 h) (b : Addr) (k : Int32) (F : Fld Z h b "java/lang/Enum" "ordinal" "I" (.int k)) :
    Met l Z n0 (⟨"java/lang/Enum", "ordinal", "()I"⟩ : MethodName) jdk_37_method_2_code 1 (some .int) [] ({ frames := 0, cells := 0, slots := 0, locals := 0 } : Room) #[(.ref b)] h (fun v h' => v = some (.int k) ∧ h = h') := by
  refine met_of (Ls := #[(.val (.ref b))]) (by decide +kernel) (fun m => by first | (simp [entryFrame, mkF, argsToLocals, Value.category]; done) | rfl) O ?_
  intro p e s m below meth cd C
  refine go_aloadN C (pc' := 1) dc_jdk_37_method_2_code_0 rfl rfl rfl ?_
  refine go_getF C (pc' := 4) (host := "") (Or.inl (wd_87 hw)) Via.refl F dc_jdk_37_method_2_code_1 rfl ?_
  exact go_retI C dc_jdk_37_method_2_code_4 (by decide) (by decide) ⟨rfl, rfl⟩
set_option maxRecDepth 65536 in
set_option maxHeartbeats 4000000 in
theorem add_0 (l : Launch) (Z : State) (a0 : Array Value) (hw : ∀ d ∈ tables_1, d.before a0 Z = true) (n0 : Nat) (h : Heap) (O : Old Z n0 h) (b u w : Addr) (k : ClassId) (c0 c1 c2 t : Int64) (Wi : WinsAt Z h b w k c0 c1 c2 t) (nb : n0 ≤ b) (nw : n0 ≤ w) (hbw : w ≠ b) (q : Addr) (Eu : Exa Z h u "com/example/hustings/hustings/model/Outcome$Won") (Fu : Fld Z h u "com/example/hustings/hustings/model/Outcome$Won" "winner" "Lcom/example/hustings/hustings/model/Party;" (.ref q)) (Eq : Exa Z h q "com/example/hustings/hustings/model/Party") (Fq : Fld Z h q "java/lang/Enum" "ordinal" "I" (.int (0 : Int32))) :
    Met l Z n0 (⟨"com/example/hustings/hustings/model/Wins", "add", "(Lcom/example/hustings/hustings/model/Outcome;)V"⟩ : MethodName) prog_32_method_2_code 3 none [] ({ frames := 1, cells := 0, slots := 0, locals := 13 } : Room) #[(.ref b), (.ref u)] h (fun v h' => v = none ∧ Keep h h' [b, w] ∧ WinsAt Z h' b w k (c0 + 1) c1 c2 t) := by
  refine met_of (Ls := #[(.val (.ref b)), (.val (.ref u)), .unset]) (by decide +kernel) (fun m => by first | (simp [entryFrame, mkF, argsToLocals, Value.category]; done) | rfl) O ?_
  intro p e s m below meth cd C
  refine go_aloadN C (pc' := 1) dc_prog_32_method_2_code_0 rfl rfl rfl ?_
  refine go_instY C (pc' := 4) (wd_73 hw) (Ins.self Eu) dc_prog_32_method_2_code_1 rfl ?_
  refine go_ifNo C (pc' := 7) dc_prog_32_method_2_code_4 (by decide) rfl ?_
  refine go_aloadN C (pc' := 8) dc_prog_32_method_2_code_7 rfl rfl rfl ?_
  refine go_castY C (pc' := 11) (wd_73 hw) (Ins.self Eu) dc_prog_32_method_2_code_8 rfl ?_
  refine go_astoreN C (pc' := 12) dc_prog_32_method_2_code_11 rfl (Ls' := #[(.val (.ref b)), (.val (.ref u)), (.val (.ref u))]) rfl rfl ?_
  refine go_aloadN C (pc' := 13) dc_prog_32_method_2_code_12 rfl rfl rfl ?_
  refine go_getF C (pc' := 16) (host := "") (Or.inl (wd_34 hw)) Via.refl Wi.2.1 dc_prog_32_method_2_code_13 rfl ?_
  refine go_aloadN C (pc' := 17) dc_prog_32_method_2_code_16 rfl rfl rfl ?_
  refine go_callV C (pc' := 20) (y' := (⟨"com/example/hustings/hustings/model/Outcome$Won", "winner", "()Lcom/example/hustings/hustings/model/Party;"⟩ : MethodName)) (wd_75 hw) (wd_76 hw) (wd_78 hw) (wd_77 hw) (winner_met l Z a0 hw _ _ O u q Fu) (wd_79 hw) (wd_41 hw) (by decide) (by decide) (W := 1) (Nat.le_of_ble_eq_true rfl) (by decide) (by decide) (by decide) rfl Eu (argsL := []) (rest := [(.ref w)]) pd_3 rfl rfl rfl dc_prog_32_method_2_code_17 rfl ?_
  rintro _ _ ⟨rfl, rfl⟩
  refine go_st (st' := [(.ref q), (.ref w)]) rfl ?_
  refine go_callU C (pc' := 23) (y' := (⟨"java/lang/Enum", "ordinal", "()I"⟩ : MethodName)) (K1 := "com/example/hustings/hustings/model/Party") (wd_80 hw) (wd_81 hw) (wd_82 hw) (wd_84 hw) (wd_83 hw) (ordinal_met l Z a0 hw _ _ O q _ Fq) (wd_86 hw) (wd_85 hw) (by decide) (by decide) (W := 1) (Nat.le_of_ble_eq_true rfl) (by decide) (by decide) (by decide) rfl Eq (argsL := []) (rest := [(.ref w)]) pd_4 rfl rfl rfl dc_prog_32_method_2_code_20 rfl ?_
  rintro _ _ ⟨rfl, rfl⟩
  refine go_st (st' := [(.int (0 : Int32)), (.ref w)]) rfl ?_
  refine go_dup2 C (pc' := 24) dc_prog_32_method_2_code_23 rfl rfl rfl ?_
  refine go_laget C (pc' := 25) Wi.2.2.2 (by decide) (i := 0) (by decide) rfl dc_prog_32_method_2_code_24 rfl ?_
  refine go_lconst C (pc' := 26) dc_prog_32_method_2_code_25 (z := (1 : Int64)) (by decide) rfl ?_
  refine go_ladd C (pc' := 27) dc_prog_32_method_2_code_26 rfl ?_
  refine go_laset C (pc' := 28) Wi.2.2.2 (by decide) (i := 0) (by decide) (by simp) (vs' := [(.long (c0 + (1 : Int64))), (.long c1), (.long c2)]) rfl dc_prog_32_method_2_code_27 rfl nw ?_
  intro h1 W1 A1
  refine go_goto C (pc' := 41) dc_prog_32_method_2_code_28 (by decide) (by decide) ?_
  exact go_ret0 C dc_prog_32_method_2_code_41 (by decide) (by decide) ⟨rfl, ((Keep.refl _ [b, w]).wr W1 (Or.inl (by simp))), ⟨(Wi.1.wr W1), (Wi.2.1.other W1 (Or.inl (Ne.symm hbw))), (Wi.2.2.1.other W1 (Or.inl (Ne.symm hbw))), A1⟩⟩
set_option maxRecDepth 65536 in
set_option maxHeartbeats 4000000 in
theorem add_1 (l : Launch) (Z : State) (a0 : Array Value) (hw : ∀ d ∈ tables_1, d.before a0 Z = true) (n0 : Nat) (h : Heap) (O : Old Z n0 h) (b u w : Addr) (k : ClassId) (c0 c1 c2 t : Int64) (Wi : WinsAt Z h b w k c0 c1 c2 t) (nb : n0 ≤ b) (nw : n0 ≤ w) (hbw : w ≠ b) (q : Addr) (Eu : Exa Z h u "com/example/hustings/hustings/model/Outcome$Won") (Fu : Fld Z h u "com/example/hustings/hustings/model/Outcome$Won" "winner" "Lcom/example/hustings/hustings/model/Party;" (.ref q)) (Eq : Exa Z h q "com/example/hustings/hustings/model/Party") (Fq : Fld Z h q "java/lang/Enum" "ordinal" "I" (.int (1 : Int32))) :
    Met l Z n0 (⟨"com/example/hustings/hustings/model/Wins", "add", "(Lcom/example/hustings/hustings/model/Outcome;)V"⟩ : MethodName) prog_32_method_2_code 3 none [] ({ frames := 1, cells := 0, slots := 0, locals := 13 } : Room) #[(.ref b), (.ref u)] h (fun v h' => v = none ∧ Keep h h' [b, w] ∧ WinsAt Z h' b w k c0 (c1 + 1) c2 t) := by
  refine met_of (Ls := #[(.val (.ref b)), (.val (.ref u)), .unset]) (by decide +kernel) (fun m => by first | (simp [entryFrame, mkF, argsToLocals, Value.category]; done) | rfl) O ?_
  intro p e s m below meth cd C
  refine go_aloadN C (pc' := 1) dc_prog_32_method_2_code_0 rfl rfl rfl ?_
  refine go_instY C (pc' := 4) (wd_73 hw) (Ins.self Eu) dc_prog_32_method_2_code_1 rfl ?_
  refine go_ifNo C (pc' := 7) dc_prog_32_method_2_code_4 (by decide) rfl ?_
  refine go_aloadN C (pc' := 8) dc_prog_32_method_2_code_7 rfl rfl rfl ?_
  refine go_castY C (pc' := 11) (wd_73 hw) (Ins.self Eu) dc_prog_32_method_2_code_8 rfl ?_
  refine go_astoreN C (pc' := 12) dc_prog_32_method_2_code_11 rfl (Ls' := #[(.val (.ref b)), (.val (.ref u)), (.val (.ref u))]) rfl rfl ?_
  refine go_aloadN C (pc' := 13) dc_prog_32_method_2_code_12 rfl rfl rfl ?_
  refine go_getF C (pc' := 16) (host := "") (Or.inl (wd_34 hw)) Via.refl Wi.2.1 dc_prog_32_method_2_code_13 rfl ?_
  refine go_aloadN C (pc' := 17) dc_prog_32_method_2_code_16 rfl rfl rfl ?_
  refine go_callV C (pc' := 20) (y' := (⟨"com/example/hustings/hustings/model/Outcome$Won", "winner", "()Lcom/example/hustings/hustings/model/Party;"⟩ : MethodName)) (wd_75 hw) (wd_76 hw) (wd_78 hw) (wd_77 hw) (winner_met l Z a0 hw _ _ O u q Fu) (wd_79 hw) (wd_41 hw) (by decide) (by decide) (W := 1) (Nat.le_of_ble_eq_true rfl) (by decide) (by decide) (by decide) rfl Eu (argsL := []) (rest := [(.ref w)]) pd_3 rfl rfl rfl dc_prog_32_method_2_code_17 rfl ?_
  rintro _ _ ⟨rfl, rfl⟩
  refine go_st (st' := [(.ref q), (.ref w)]) rfl ?_
  refine go_callU C (pc' := 23) (y' := (⟨"java/lang/Enum", "ordinal", "()I"⟩ : MethodName)) (K1 := "com/example/hustings/hustings/model/Party") (wd_80 hw) (wd_81 hw) (wd_82 hw) (wd_84 hw) (wd_83 hw) (ordinal_met l Z a0 hw _ _ O q _ Fq) (wd_86 hw) (wd_85 hw) (by decide) (by decide) (W := 1) (Nat.le_of_ble_eq_true rfl) (by decide) (by decide) (by decide) rfl Eq (argsL := []) (rest := [(.ref w)]) pd_4 rfl rfl rfl dc_prog_32_method_2_code_20 rfl ?_
  rintro _ _ ⟨rfl, rfl⟩
  refine go_st (st' := [(.int (1 : Int32)), (.ref w)]) rfl ?_
  refine go_dup2 C (pc' := 24) dc_prog_32_method_2_code_23 rfl rfl rfl ?_
  refine go_laget C (pc' := 25) Wi.2.2.2 (by decide) (i := 1) (by decide) rfl dc_prog_32_method_2_code_24 rfl ?_
  refine go_lconst C (pc' := 26) dc_prog_32_method_2_code_25 (z := (1 : Int64)) (by decide) rfl ?_
  refine go_ladd C (pc' := 27) dc_prog_32_method_2_code_26 rfl ?_
  refine go_laset C (pc' := 28) Wi.2.2.2 (by decide) (i := 1) (by decide) (by simp) (vs' := [(.long c0), (.long (c1 + (1 : Int64))), (.long c2)]) rfl dc_prog_32_method_2_code_27 rfl nw ?_
  intro h1 W1 A1
  refine go_goto C (pc' := 41) dc_prog_32_method_2_code_28 (by decide) (by decide) ?_
  exact go_ret0 C dc_prog_32_method_2_code_41 (by decide) (by decide) ⟨rfl, ((Keep.refl _ [b, w]).wr W1 (Or.inl (by simp))), ⟨(Wi.1.wr W1), (Wi.2.1.other W1 (Or.inl (Ne.symm hbw))), (Wi.2.2.1.other W1 (Or.inl (Ne.symm hbw))), A1⟩⟩
set_option maxRecDepth 65536 in
set_option maxHeartbeats 4000000 in
theorem add_2 (l : Launch) (Z : State) (a0 : Array Value) (hw : ∀ d ∈ tables_1, d.before a0 Z = true) (n0 : Nat) (h : Heap) (O : Old Z n0 h) (b u w : Addr) (k : ClassId) (c0 c1 c2 t : Int64) (Wi : WinsAt Z h b w k c0 c1 c2 t) (nb : n0 ≤ b) (nw : n0 ≤ w) (hbw : w ≠ b) (q : Addr) (Eu : Exa Z h u "com/example/hustings/hustings/model/Outcome$Won") (Fu : Fld Z h u "com/example/hustings/hustings/model/Outcome$Won" "winner" "Lcom/example/hustings/hustings/model/Party;" (.ref q)) (Eq : Exa Z h q "com/example/hustings/hustings/model/Party") (Fq : Fld Z h q "java/lang/Enum" "ordinal" "I" (.int (2 : Int32))) :
    Met l Z n0 (⟨"com/example/hustings/hustings/model/Wins", "add", "(Lcom/example/hustings/hustings/model/Outcome;)V"⟩ : MethodName) prog_32_method_2_code 3 none [] ({ frames := 1, cells := 0, slots := 0, locals := 13 } : Room) #[(.ref b), (.ref u)] h (fun v h' => v = none ∧ Keep h h' [b, w] ∧ WinsAt Z h' b w k c0 c1 (c2 + 1) t) := by
  refine met_of (Ls := #[(.val (.ref b)), (.val (.ref u)), .unset]) (by decide +kernel) (fun m => by first | (simp [entryFrame, mkF, argsToLocals, Value.category]; done) | rfl) O ?_
  intro p e s m below meth cd C
  refine go_aloadN C (pc' := 1) dc_prog_32_method_2_code_0 rfl rfl rfl ?_
  refine go_instY C (pc' := 4) (wd_73 hw) (Ins.self Eu) dc_prog_32_method_2_code_1 rfl ?_
  refine go_ifNo C (pc' := 7) dc_prog_32_method_2_code_4 (by decide) rfl ?_
  refine go_aloadN C (pc' := 8) dc_prog_32_method_2_code_7 rfl rfl rfl ?_
  refine go_castY C (pc' := 11) (wd_73 hw) (Ins.self Eu) dc_prog_32_method_2_code_8 rfl ?_
  refine go_astoreN C (pc' := 12) dc_prog_32_method_2_code_11 rfl (Ls' := #[(.val (.ref b)), (.val (.ref u)), (.val (.ref u))]) rfl rfl ?_
  refine go_aloadN C (pc' := 13) dc_prog_32_method_2_code_12 rfl rfl rfl ?_
  refine go_getF C (pc' := 16) (host := "") (Or.inl (wd_34 hw)) Via.refl Wi.2.1 dc_prog_32_method_2_code_13 rfl ?_
  refine go_aloadN C (pc' := 17) dc_prog_32_method_2_code_16 rfl rfl rfl ?_
  refine go_callV C (pc' := 20) (y' := (⟨"com/example/hustings/hustings/model/Outcome$Won", "winner", "()Lcom/example/hustings/hustings/model/Party;"⟩ : MethodName)) (wd_75 hw) (wd_76 hw) (wd_78 hw) (wd_77 hw) (winner_met l Z a0 hw _ _ O u q Fu) (wd_79 hw) (wd_41 hw) (by decide) (by decide) (W := 1) (Nat.le_of_ble_eq_true rfl) (by decide) (by decide) (by decide) rfl Eu (argsL := []) (rest := [(.ref w)]) pd_3 rfl rfl rfl dc_prog_32_method_2_code_17 rfl ?_
  rintro _ _ ⟨rfl, rfl⟩
  refine go_st (st' := [(.ref q), (.ref w)]) rfl ?_
  refine go_callU C (pc' := 23) (y' := (⟨"java/lang/Enum", "ordinal", "()I"⟩ : MethodName)) (K1 := "com/example/hustings/hustings/model/Party") (wd_80 hw) (wd_81 hw) (wd_82 hw) (wd_84 hw) (wd_83 hw) (ordinal_met l Z a0 hw _ _ O q _ Fq) (wd_86 hw) (wd_85 hw) (by decide) (by decide) (W := 1) (Nat.le_of_ble_eq_true rfl) (by decide) (by decide) (by decide) rfl Eq (argsL := []) (rest := [(.ref w)]) pd_4 rfl rfl rfl dc_prog_32_method_2_code_20 rfl ?_
  rintro _ _ ⟨rfl, rfl⟩
  refine go_st (st' := [(.int (2 : Int32)), (.ref w)]) rfl ?_
  refine go_dup2 C (pc' := 24) dc_prog_32_method_2_code_23 rfl rfl rfl ?_
  refine go_laget C (pc' := 25) Wi.2.2.2 (by decide) (i := 2) (by decide) rfl dc_prog_32_method_2_code_24 rfl ?_
  refine go_lconst C (pc' := 26) dc_prog_32_method_2_code_25 (z := (1 : Int64)) (by decide) rfl ?_
  refine go_ladd C (pc' := 27) dc_prog_32_method_2_code_26 rfl ?_
  refine go_laset C (pc' := 28) Wi.2.2.2 (by decide) (i := 2) (by decide) (by simp) (vs' := [(.long c0), (.long c1), (.long (c2 + (1 : Int64)))]) rfl dc_prog_32_method_2_code_27 rfl nw ?_
  intro h1 W1 A1
  refine go_goto C (pc' := 41) dc_prog_32_method_2_code_28 (by decide) (by decide) ?_
  exact go_ret0 C dc_prog_32_method_2_code_41 (by decide) (by decide) ⟨rfl, ((Keep.refl _ [b, w]).wr W1 (Or.inl (by simp))), ⟨(Wi.1.wr W1), (Wi.2.1.other W1 (Or.inl (Ne.symm hbw))), (Wi.2.2.1.other W1 (Or.inl (Ne.symm hbw))), A1⟩⟩
set_option maxRecDepth 65536 in
set_option maxHeartbeats 4000000 in
theorem add_3 (l : Launch) (Z : State) (a0 : Array Value) (hw : ∀ d ∈ tables_1, d.before a0 Z = true) (n0 : Nat) (h : Heap) (O : Old Z n0 h) (b u w : Addr) (k : ClassId) (c0 c1 c2 t : Int64) (Wi : WinsAt Z h b w k c0 c1 c2 t) (nb : n0 ≤ b) (nw : n0 ≤ w) (hbw : w ≠ b) (Eu : Exa Z h u "com/example/hustings/hustings/model/Outcome$Tie") :
    Met l Z n0 (⟨"com/example/hustings/hustings/model/Wins", "add", "(Lcom/example/hustings/hustings/model/Outcome;)V"⟩ : MethodName) prog_32_method_2_code 3 none [] ({ frames := 1, cells := 0, slots := 0, locals := 13 } : Room) #[(.ref b), (.ref u)] h (fun v h' => v = none ∧ Keep h h' [b, w] ∧ WinsAt Z h' b w k c0 c1 c2 (t + 1)) := by
  refine met_of (Ls := #[(.val (.ref b)), (.val (.ref u)), .unset]) (by decide +kernel) (fun m => by first | (simp [entryFrame, mkF, argsToLocals, Value.category]; done) | rfl) O ?_
  intro p e s m below meth cd C
  refine go_aloadN C (pc' := 1) dc_prog_32_method_2_code_0 rfl rfl rfl ?_
  refine go_instNo C (pc' := 4) (wd_73 hw) Eu (own_noinst (wd_96 hw) (wd_97 hw) (wd_98 hw) (wd_40 hw) (by decide) (by decide) (by decide)) dc_prog_32_method_2_code_1 rfl ?_
  refine go_ifYes C (pc' := 31) dc_prog_32_method_2_code_4 (by decide) (by decide) (by decide) ?_
  refine go_aloadN C (pc' := 32) dc_prog_32_method_2_code_31 rfl rfl rfl ?_
  refine go_dup C (pc' := 33) dc_prog_32_method_2_code_32 rfl rfl ?_
  refine go_getF C (pc' := 36) (host := "") (Or.inl (wd_99 hw)) Via.refl Wi.2.2.1 dc_prog_32_method_2_code_33 rfl ?_
  refine go_lconst C (pc' := 37) dc_prog_32_method_2_code_36 (z := (1 : Int64)) (by decide) rfl ?_
  refine go_ladd C (pc' := 38) dc_prog_32_method_2_code_37 rfl ?_
  refine go_putF C (pc' := 41) (host := "") (Or.inl (wd_99 hw)) Via.refl Wi.2.2.1 Wi.1 (Or.inl (wd_100 hw)) (wd_6 hw) (ty := .long) (by decide) rfl rfl dc_prog_32_method_2_code_38 rfl nb ?_
  intro h1 W1 F1
  exact go_ret0 C dc_prog_32_method_2_code_41 (by decide) (by decide) ⟨rfl, ((Keep.refl _ [b, w]).wr W1 (Or.inl (by simp))), ⟨(Wi.1.wr W1), (Wi.2.1.other W1 (Or.inr (slot_ne (a0 := a0) (Or.inr (wd_35 hw)) (Or.inl (wd_100 hw)) (by decide) (t := (.array .long)) (t' := .long) (by decide) (by decide)))), F1, (Wi.2.2.2.other W1 hbw)⟩⟩
set_option maxRecDepth 65536 in
set_option maxHeartbeats 4000000 in
theorem games_met (l : Launch) (Z : State) (a0 : Array Value) (hw : ∀ d ∈ tables_1, d.before a0 Z = true) (n0 : Nat) (h : Heap) (O : Old Z n0 h) (b w : Addr) (k : ClassId) (c0 c1 c2 t : Int64) (Wi : WinsAt Z h b w k c0 c1 c2 t) (nb : n0 ≤ b) (nw : n0 ≤ w) (hbw : w ≠ b) :
    Met l Z n0 (⟨"com/example/hustings/hustings/model/Wins", "games", "()J"⟩ : MethodName) prog_32_method_4_code 8 (some .long) [] ({ frames := 0, cells := 0, slots := 0, locals := 0 } : Room) #[(.ref b)] h (fun v h' => v = some (.long (t + c0 + c1 + c2)) ∧ h = h') := by
  refine met_of (Ls := #[(.val (.ref b)), .unset, .unset, .unset, .unset, .unset, .unset, .unset]) (by decide +kernel) (fun m => by first | (simp [entryFrame, mkF, argsToLocals, Value.category]; done) | rfl) O ?_
  intro p e s m below meth cd C
  refine go_aloadN C (pc' := 1) dc_prog_32_method_4_code_0 rfl rfl rfl ?_
  refine go_getF C (pc' := 4) (host := "") (Or.inl (wd_99 hw)) Via.refl Wi.2.2.1 dc_prog_32_method_4_code_1 rfl ?_
  refine go_lstoreN C (pc' := 5) dc_prog_32_method_4_code_4 (Ls' := #[(.val (.ref b)), (.val (.long t)), .second, .unset, .unset, .unset, .unset, .unset]) rfl rfl ?_
  refine go_aloadN C (pc' := 6) dc_prog_32_method_4_code_5 rfl rfl rfl ?_
  refine go_getF C (pc' := 9) (host := "") (Or.inl (wd_34 hw)) Via.refl Wi.2.1 dc_prog_32_method_4_code_6 rfl ?_
  refine go_astoreN C (pc' := 10) dc_prog_32_method_4_code_9 rfl (Ls' := #[(.val (.ref b)), (.val (.long t)), .second, (.val (.ref w)), .unset, .unset, .unset, .unset]) rfl rfl ?_
  refine go_aloadN C (pc' := 11) dc_prog_32_method_4_code_10 rfl rfl rfl ?_
  refine go_alen C (pc' := 12) Wi.2.2.2 (z := (3 : Int32)) rfl dc_prog_32_method_4_code_11 rfl ?_
  refine go_istore C (pc' := 14) dc_prog_32_method_4_code_12 (Ls' := #[(.val (.ref b)), (.val (.long t)), .second, (.val (.ref w)), (.val (.int (3 : Int32))), .unset, .unset, .unset]) rfl rfl ?_
  refine go_iconst C (pc' := 15) dc_prog_32_method_4_code_14 (z := (0 : Int32)) (by decide) rfl ?_
  refine go_istore C (pc' := 17) dc_prog_32_method_4_code_15 (Ls' := #[(.val (.ref b)), (.val (.long t)), .second, (.val (.ref w)), (.val (.int (3 : Int32))), (.val (.int (0 : Int32))), .unset, .unset]) rfl rfl ?_
  refine go_iload C (pc' := 19) dc_prog_32_method_4_code_17 rfl rfl ?_
  refine go_iload C (pc' := 21) dc_prog_32_method_4_code_19 rfl rfl ?_
  refine go_icmpNo C (pc' := 24) dc_prog_32_method_4_code_21 (by decide) rfl ?_
  refine go_aloadN C (pc' := 25) dc_prog_32_method_4_code_24 rfl rfl rfl ?_
  refine go_iload C (pc' := 27) dc_prog_32_method_4_code_25 rfl rfl ?_
  refine go_laget C (pc' := 28) Wi.2.2.2 (by decide) (i := 0) (by decide) rfl dc_prog_32_method_4_code_27 rfl ?_
  refine go_lstore C (pc' := 30) dc_prog_32_method_4_code_28 (Ls' := #[(.val (.ref b)), (.val (.long t)), .second, (.val (.ref w)), (.val (.int (3 : Int32))), (.val (.int (0 : Int32))), (.val (.long c0)), .second]) rfl rfl ?_
  refine go_lloadN C (pc' := 31) dc_prog_32_method_4_code_30 rfl rfl ?_
  refine go_lload C (pc' := 33) dc_prog_32_method_4_code_31 rfl rfl ?_
  refine go_ladd C (pc' := 34) dc_prog_32_method_4_code_33 rfl ?_
  refine go_lstoreN C (pc' := 35) dc_prog_32_method_4_code_34 (Ls' := #[(.val (.ref b)), (.val (.long (t + c0))), .second, (.val (.ref w)), (.val (.int (3 : Int32))), (.val (.int (0 : Int32))), (.val (.long c0)), .second]) rfl rfl ?_
  refine go_iinc C (pc' := 38) dc_prog_32_method_4_code_35 rfl (Ls' := #[(.val (.ref b)), (.val (.long (t + c0))), .second, (.val (.ref w)), (.val (.int (3 : Int32))), (.val (.int ((0 : Int32) + (1 : Int32)))), (.val (.long c0)), .second]) rfl rfl ?_
  refine go_ls (Ls' := #[(.val (.ref b)), (.val (.long (t + c0))), .second, (.val (.ref w)), (.val (.int (3 : Int32))), (.val (.int (1 : Int32))), (.val (.long c0)), .second]) (by rw [show ((0 : Int32) + (1 : Int32)) = (1 : Int32) from by decide]) ?_
  refine go_goto C (pc' := 17) dc_prog_32_method_4_code_38 (by decide) (by decide) ?_
  refine go_iload C (pc' := 19) dc_prog_32_method_4_code_17 rfl rfl ?_
  refine go_iload C (pc' := 21) dc_prog_32_method_4_code_19 rfl rfl ?_
  refine go_icmpNo C (pc' := 24) dc_prog_32_method_4_code_21 (by decide) rfl ?_
  refine go_aloadN C (pc' := 25) dc_prog_32_method_4_code_24 rfl rfl rfl ?_
  refine go_iload C (pc' := 27) dc_prog_32_method_4_code_25 rfl rfl ?_
  refine go_laget C (pc' := 28) Wi.2.2.2 (by decide) (i := 1) (by decide) rfl dc_prog_32_method_4_code_27 rfl ?_
  refine go_lstore C (pc' := 30) dc_prog_32_method_4_code_28 (Ls' := #[(.val (.ref b)), (.val (.long (t + c0))), .second, (.val (.ref w)), (.val (.int (3 : Int32))), (.val (.int (1 : Int32))), (.val (.long c1)), .second]) rfl rfl ?_
  refine go_lloadN C (pc' := 31) dc_prog_32_method_4_code_30 rfl rfl ?_
  refine go_lload C (pc' := 33) dc_prog_32_method_4_code_31 rfl rfl ?_
  refine go_ladd C (pc' := 34) dc_prog_32_method_4_code_33 rfl ?_
  refine go_lstoreN C (pc' := 35) dc_prog_32_method_4_code_34 (Ls' := #[(.val (.ref b)), (.val (.long ((t + c0) + c1))), .second, (.val (.ref w)), (.val (.int (3 : Int32))), (.val (.int (1 : Int32))), (.val (.long c1)), .second]) rfl rfl ?_
  refine go_iinc C (pc' := 38) dc_prog_32_method_4_code_35 rfl (Ls' := #[(.val (.ref b)), (.val (.long ((t + c0) + c1))), .second, (.val (.ref w)), (.val (.int (3 : Int32))), (.val (.int ((1 : Int32) + (1 : Int32)))), (.val (.long c1)), .second]) rfl rfl ?_
  refine go_ls (Ls' := #[(.val (.ref b)), (.val (.long ((t + c0) + c1))), .second, (.val (.ref w)), (.val (.int (3 : Int32))), (.val (.int (2 : Int32))), (.val (.long c1)), .second]) (by rw [show ((1 : Int32) + (1 : Int32)) = (2 : Int32) from by decide]) ?_
  refine go_goto C (pc' := 17) dc_prog_32_method_4_code_38 (by decide) (by decide) ?_
  refine go_iload C (pc' := 19) dc_prog_32_method_4_code_17 rfl rfl ?_
  refine go_iload C (pc' := 21) dc_prog_32_method_4_code_19 rfl rfl ?_
  refine go_icmpNo C (pc' := 24) dc_prog_32_method_4_code_21 (by decide) rfl ?_
  refine go_aloadN C (pc' := 25) dc_prog_32_method_4_code_24 rfl rfl rfl ?_
  refine go_iload C (pc' := 27) dc_prog_32_method_4_code_25 rfl rfl ?_
  refine go_laget C (pc' := 28) Wi.2.2.2 (by decide) (i := 2) (by decide) rfl dc_prog_32_method_4_code_27 rfl ?_
  refine go_lstore C (pc' := 30) dc_prog_32_method_4_code_28 (Ls' := #[(.val (.ref b)), (.val (.long ((t + c0) + c1))), .second, (.val (.ref w)), (.val (.int (3 : Int32))), (.val (.int (2 : Int32))), (.val (.long c2)), .second]) rfl rfl ?_
  refine go_lloadN C (pc' := 31) dc_prog_32_method_4_code_30 rfl rfl ?_
  refine go_lload C (pc' := 33) dc_prog_32_method_4_code_31 rfl rfl ?_
  refine go_ladd C (pc' := 34) dc_prog_32_method_4_code_33 rfl ?_
  refine go_lstoreN C (pc' := 35) dc_prog_32_method_4_code_34 (Ls' := #[(.val (.ref b)), (.val (.long (((t + c0) + c1) + c2))), .second, (.val (.ref w)), (.val (.int (3 : Int32))), (.val (.int (2 : Int32))), (.val (.long c2)), .second]) rfl rfl ?_
  refine go_iinc C (pc' := 38) dc_prog_32_method_4_code_35 rfl (Ls' := #[(.val (.ref b)), (.val (.long (((t + c0) + c1) + c2))), .second, (.val (.ref w)), (.val (.int (3 : Int32))), (.val (.int ((2 : Int32) + (1 : Int32)))), (.val (.long c2)), .second]) rfl rfl ?_
  refine go_ls (Ls' := #[(.val (.ref b)), (.val (.long (((t + c0) + c1) + c2))), .second, (.val (.ref w)), (.val (.int (3 : Int32))), (.val (.int (3 : Int32))), (.val (.long c2)), .second]) (by rw [show ((2 : Int32) + (1 : Int32)) = (3 : Int32) from by decide]) ?_
  refine go_goto C (pc' := 17) dc_prog_32_method_4_code_38 (by decide) (by decide) ?_
  refine go_iload C (pc' := 19) dc_prog_32_method_4_code_17 rfl rfl ?_
  refine go_iload C (pc' := 21) dc_prog_32_method_4_code_19 rfl rfl ?_
  refine go_icmpYes C (pc' := 41) dc_prog_32_method_4_code_21 (by decide) (by decide) (by decide) ?_
  refine go_lloadN C (pc' := 42) dc_prog_32_method_4_code_41 rfl rfl ?_
  exact go_retL C dc_prog_32_method_4_code_42 (by decide) (by decide) ⟨rfl, rfl⟩
theorem own_ne {i k : Int32} {d : Int} (h : ¬ i = k) (hk : k.toInt = d) : i.toInt ≠ d := fun q => h (Int32.toInt_inj.mp (q.trans hk.symm))
theorem own_mask (x : Int32) : 0 ≤ (x &&& 2147483647).toInt := (c_and x 2147483647 (by decide)).1
theorem own_rem (x k : Int32) (d : Int) (hk : k.toInt = d) (hd : 0 < d) : 0 ≤ ((x &&& 2147483647) % k).toInt ∧ ((x &&& 2147483647) % k).toInt < d := by
  have h := (c_irem (x &&& 2147483647) k d hk).1 (own_mask x)
  rw [h]
  exact ⟨Int.emod_nonneg _ (by omega), Int.emod_lt_of_pos _ hd⟩
def dl (c k : Int32) : Int64 := if c = k then 1 else 0
theorem WinsAt.cast {Z : State} {h : Heap} {b w : Addr} {k : ClassId} {c0 c1 c2 t d0 d1 d2 u : Int64} (F : WinsAt Z h b w k c0 c1 c2 t) (e0 : c0 = d0) (e1 : c1 = d1) (e2 : c2 = d2) (e3 : t = u) : WinsAt Z h b w k d0 d1 d2 u := by subst e0 e1 e2 e3; exact F
theorem own_two (x y : Int64) : (0 + x + y) + (0 + x + y) = 2 * (x + y) := by
  rw [Int64.zero_add]
  generalize x + y = z
  rw [show (2 : Int64) = 1 + 1 from by decide, Int64.add_mul, Int64.one_mul]
theorem own_both (x y u v : Int64) : (0 + x + y) + (0 + u + v) = (x + y) + (u + v) := by rw [Int64.zero_add, Int64.zero_add]
theorem own_games (a b c d e f g h : Int64) : (0 + a + b) + (0 + c + d) + (0 + e + f) + (0 + g + h) = (c + d) + (e + f) + (g + h) + (a + b) := by
  simp only [Int64.zero_add]
  ac_rfl
set_option maxRecDepth 65536 in
set_option maxHeartbeats 4000000 in
theorem code_met (l : Launch) (Z : State) (a0 : Array Value) (hw : ∀ d ∈ tables_1, d.before a0 Z = true) (n0 : Nat) (h : Heap) (O : Old Z n0 h) (x : Int32) :
    Met l Z n0 (⟨"com/example/hustings/hustings/model/WinsAddAllPinLaw", "code", "(I)I"⟩ : MethodName) method_2_code 1 (some .int) [] ({ frames := 0, cells := 0, slots := 0, locals := 0 } : Room) #[(.int x)] h (fun v h' => v = some (.int ((x &&& 2147483647) % 5)) ∧ h = h') := by
  refine met_of (Ls := #[(.val (.int x))]) (by decide +kernel) (fun m => by first | (simp [entryFrame, mkF, argsToLocals, Value.category]; done) | rfl) O ?_
  intro p e s m below meth cd C
  refine go_iloadN C (pc' := 1) dc_method_2_code_0 rfl rfl ?_
  refine go_ldcInt C (pc' := 3) (wd_4 hw) dc_method_2_code_1 rfl ?_
  refine go_iand C (pc' := 4) dc_method_2_code_3 rfl ?_
  refine go_iconst C (pc' := 5) dc_method_2_code_4 (z := (5 : Int32)) (by decide) rfl ?_
  refine go_irem C (pc' := 6) dc_method_2_code_5 (by decide) rfl ?_
  exact go_retI C dc_method_2_code_6 (by decide) (by decide) ⟨rfl, rfl⟩
set_option maxRecDepth 65536 in
set_option maxHeartbeats 4000000 in
theorem cnt_met (l : Launch) (Z : State) (a0 : Array Value) (hw : ∀ d ∈ tables_1, d.before a0 Z = true) (n0 : Nat) (h : Heap) (O : Old Z n0 h) (c9 d9 k9 : Int32) :
    Met l Z n0 (⟨"com/example/hustings/hustings/model/WinsAddAllPinLaw", "cnt", "(III)J"⟩ : MethodName) method_4_code 5 (some .long) [] ({ frames := 0, cells := 0, slots := 0, locals := 0 } : Room) #[(.int c9), (.int d9), (.int k9)] h (fun v h' => v = some (.long (dl c9 k9 + dl d9 k9)) ∧ h = h') := by
  refine met_of (Ls := #[(.val (.int c9)), (.val (.int d9)), (.val (.int k9)), .unset, .unset]) (by decide +kernel) (fun m => by first | (simp [entryFrame, mkF, argsToLocals, Value.category]; done) | rfl) O ?_
  intro p e s m below meth cd C
  refine go_lconst C (pc' := 1) dc_method_4_code_0 (z := (0 : Int64)) (by decide) rfl ?_
  refine go_lstoreN C (pc' := 2) dc_method_4_code_1 (Ls' := #[(.val (.int c9)), (.val (.int d9)), (.val (.int k9)), (.val (.long (0 : Int64))), .second]) rfl rfl ?_
  refine go_iloadN C (pc' := 3) dc_method_4_code_2 rfl rfl ?_
  refine go_iloadN C (pc' := 4) dc_method_4_code_3 rfl rfl ?_
  by_cases hc1 : c9 = k9
  · refine go_icmpNo C (pc' := 7) dc_method_4_code_4 (teq hc1).2 rfl ?_
    refine go_lloadN C (pc' := 8) dc_method_4_code_7 rfl rfl ?_
    refine go_lconst C (pc' := 9) dc_method_4_code_8 (z := (1 : Int64)) (by decide) rfl ?_
    refine go_ladd C (pc' := 10) dc_method_4_code_9 rfl ?_
    refine go_lstoreN C (pc' := 11) dc_method_4_code_10 (Ls' := #[(.val (.int c9)), (.val (.int d9)), (.val (.int k9)), (.val (.long ((0 : Int64) + (1 : Int64)))), .second]) rfl rfl ?_
    refine go_iloadN C (pc' := 12) dc_method_4_code_11 rfl rfl ?_
    refine go_iloadN C (pc' := 13) dc_method_4_code_12 rfl rfl ?_
    by_cases hc2 : d9 = k9
    · refine go_icmpNo C (pc' := 16) dc_method_4_code_13 (teq hc2).2 rfl ?_
      refine go_lloadN C (pc' := 17) dc_method_4_code_16 rfl rfl ?_
      refine go_lconst C (pc' := 18) dc_method_4_code_17 (z := (1 : Int64)) (by decide) rfl ?_
      refine go_ladd C (pc' := 19) dc_method_4_code_18 rfl ?_
      refine go_lstoreN C (pc' := 20) dc_method_4_code_19 (Ls' := #[(.val (.int c9)), (.val (.int d9)), (.val (.int k9)), (.val (.long (((0 : Int64) + (1 : Int64)) + (1 : Int64)))), .second]) rfl rfl ?_
      refine go_lloadN C (pc' := 21) dc_method_4_code_20 rfl rfl ?_
      exact go_retL C dc_method_4_code_21 (by decide) (by decide) ⟨by rw [dl, dl, if_pos hc1, if_pos hc2]; first | done | decide, rfl⟩
    · refine go_icmpYes C (pc' := 20) dc_method_4_code_13 (feq hc2).2 (by decide) (by decide) ?_
      refine go_lloadN C (pc' := 21) dc_method_4_code_20 rfl rfl ?_
      exact go_retL C dc_method_4_code_21 (by decide) (by decide) ⟨by rw [dl, dl, if_pos hc1, if_neg hc2]; first | done | decide, rfl⟩
  · refine go_icmpYes C (pc' := 11) dc_method_4_code_4 (feq hc1).2 (by decide) (by decide) ?_
    refine go_iloadN C (pc' := 12) dc_method_4_code_11 rfl rfl ?_
    refine go_iloadN C (pc' := 13) dc_method_4_code_12 rfl rfl ?_
    by_cases hc3 : d9 = k9
    · refine go_icmpNo C (pc' := 16) dc_method_4_code_13 (teq hc3).2 rfl ?_
      refine go_lloadN C (pc' := 17) dc_method_4_code_16 rfl rfl ?_
      refine go_lconst C (pc' := 18) dc_method_4_code_17 (z := (1 : Int64)) (by decide) rfl ?_
      refine go_ladd C (pc' := 19) dc_method_4_code_18 rfl ?_
      refine go_lstoreN C (pc' := 20) dc_method_4_code_19 (Ls' := #[(.val (.int c9)), (.val (.int d9)), (.val (.int k9)), (.val (.long ((0 : Int64) + (1 : Int64)))), .second]) rfl rfl ?_
      refine go_lloadN C (pc' := 21) dc_method_4_code_20 rfl rfl ?_
      exact go_retL C dc_method_4_code_21 (by decide) (by decide) ⟨by rw [dl, dl, if_neg hc1, if_pos hc3]; first | done | decide, rfl⟩
    · refine go_icmpYes C (pc' := 20) dc_method_4_code_13 (feq hc3).2 (by decide) (by decide) ?_
      refine go_lloadN C (pc' := 21) dc_method_4_code_20 rfl rfl ?_
      exact go_retL C dc_method_4_code_21 (by decide) (by decide) ⟨by rw [dl, dl, if_neg hc1, if_neg hc3]; first | done | decide, rfl⟩
set_option maxRecDepth 65536 in
set_option maxHeartbeats 4000000 in
theorem put_met (l : Launch) (Z : State) (a0 : Array Value) (hw : ∀ d ∈ tables_1, d.before a0 Z = true) (n0 : Nat) (h : Heap) (O : Old Z n0 h) (b w : Addr) (k : ClassId) (c0 c1 c2 t : Int64) (Wi : WinsAt Z h b w k c0 c1 c2 t) (nb : n0 ≤ b) (nw : n0 ≤ w) (hbw : w ≠ b) (c9 : Int32) {a_RED : Addr} (EnRED : En_RED Z Z.heap a_RED) {a_BLUE : Addr} (EnBLUE : En_BLUE Z Z.heap a_BLUE) {a_YELLOW : Addr} (EnYELLOW : En_YELLOW Z Z.heap a_YELLOW) :
    Met l Z n0 (⟨"com/example/hustings/hustings/model/WinsAddAllPinLaw", "put", "(Lcom/example/hustings/hustings/model/Wins;I)V"⟩ : MethodName) method_3_code 2 none [] ({ frames := 3, cells := 3, slots := 30, locals := 40 } : Room) #[(.ref b), (.int c9)] h (fun v h' => v = none ∧ Keep h h' [b, w] ∧ WinsAt Z h' b w k (c0 + dl c9 0) (c1 + dl c9 1) (c2 + dl c9 2) (t + dl c9 3)) := by
  refine met_of (Ls := #[(.val (.ref b)), (.val (.int c9))]) (by decide +kernel) (fun m => by first | (simp [entryFrame, mkF, argsToLocals, Value.category]; done) | rfl) O ?_
  intro p e s m below meth cd C
  refine go_iloadN C (pc' := 1) dc_method_3_code_0 rfl rfl ?_
  by_cases hc1 : c9 = 0
  · refine go_ifNo C (pc' := 4) dc_method_3_code_1 ((if0 _ _).trans (teq hc1).2) rfl ?_
    refine go_aloadN C (pc' := 5) dc_method_3_code_4 rfl rfl rfl ?_
    refine go_new C (pc' := 8) (wd_39 hw) (wd_40 hw) (wd_41 hw) dc_method_3_code_5 rfl (by decide) (by decide) ?_
    intro h2 b2 g2 n2 E2 A2 D2
    have sz_b2 := Nat.le_trans (Nat.le_refl _) (Nat.le_of_eq g2.symm)
    have ne_a_RED_b2 : a_RED ≠ b2 := Nat.ne_of_lt (by rw [g2]; exact (EnRED.2.1.ext O.2).lt)
    have ne_a_BLUE_b2 : a_BLUE ≠ b2 := Nat.ne_of_lt (by rw [g2]; exact (EnBLUE.2.1.ext O.2).lt)
    have ne_a_YELLOW_b2 : a_YELLOW ≠ b2 := Nat.ne_of_lt (by rw [g2]; exact (EnYELLOW.2.1.ext O.2).lt)
    have ne_b_b2 : b ≠ b2 := Nat.ne_of_lt (by rw [g2]; exact Wi.1.lt)
    have F2_winner : Fld Z h2 b2 "com/example/hustings/hustings/model/Outcome$Won" "winner" "Lcom/example/hustings/hustings/model/Party;" .null := D2 (Or.inr (wd_65 hw)) (ty := (.object "com/example/hustings/hustings/model/Party")) (by decide)
    have F2_decidedBy : Fld Z h2 b2 "com/example/hustings/hustings/model/Outcome$Won" "decidedBy" "I" (.int (0 : Int32)) := D2 (Or.inr (wd_67 hw)) (ty := .int) (by decide)
    refine go_old fun O2 => ?_
    refine go_dup C (pc' := 9) dc_method_3_code_8 rfl rfl ?_
    refine go_getS C (pc' := 12) (host := "") (Or.inl (wd_42 hw)) Via.refl (EnRED.1.ext O2.2) dc_method_3_code_9 rfl ?_
    refine go_iconst C (pc' := 13) dc_method_3_code_12 (z := (1 : Int32)) (by decide) rfl ?_
    refine go_callC C (pc' := 16) (y' := (⟨"com/example/hustings/hustings/model/Outcome$Won", "<init>", "(Lcom/example/hustings/hustings/model/Party;I)V"⟩ : MethodName)) (wd_43 hw) (wd_44 hw) rfl rfl (won_met l Z a0 hw _ _ O2 b2 a_RED _ A2 F2_winner F2_decidedBy n2) (wd_45 hw) (wd_41 hw) (by decide) (by decide) (W := 2) (Nat.le_of_ble_eq_true rfl) (by decide) (by decide) (by decide) rfl (a := b2) (argsL := [(.ref a_RED), (.int (1 : Int32))]) (rest := [(.ref b2), (.ref b)]) pd_5 rfl rfl rfl dc_method_3_code_13 rfl ?_
    rintro _ h3 ⟨rfl, K9, F9⟩
    refine go_st (st' := [(.ref b2), (.ref b)]) rfl ?_
    refine go_old fun O3 => ?_
    have neb : b ≠ b2 := Nat.ne_of_lt (Nat.lt_of_lt_of_le Wi.1.lt sz_b2)
    have new : w ≠ b2 := Nat.ne_of_lt (Nat.lt_of_lt_of_le Wi.2.2.2.lt sz_b2)
    have Wj := (WinsAt.keep (WinsAt.ext Wi E2) K9 (ninS neb nin0) (ninS new nin0))
    refine go_callV C (pc' := 19) (y' := (⟨"com/example/hustings/hustings/model/Wins", "add", "(Lcom/example/hustings/hustings/model/Outcome;)V"⟩ : MethodName)) (wd_68 hw) (wd_69 hw) (wd_71 hw) (wd_70 hw) (add_0 l Z a0 hw _ _ O3 b b2 w k c0 c1 c2 t Wj nb nw hbw a_RED (A2.keep K9) F9 (EnRED.2.1.ext O3.2) (EnRED.2.2.ext O3.2)) (wd_72 hw) (wd_7 hw) (by decide) (by decide) (W := 0) (Nat.le_of_ble_eq_true rfl) (by decide) (by decide) (by decide) rfl Wj.1 (argsL := [(.ref b2)]) (rest := []) pd_6 rfl rfl rfl dc_method_3_code_16 rfl ?_
    rintro _ h4 ⟨rfl, K8, W8⟩
    refine go_st (st' := []) rfl ?_
    refine go_old fun O4 => ?_
    refine go_goto C (pc' := 84) dc_method_3_code_19 (by decide) (by decide) ?_
    exact go_ret0 C dc_method_3_code_84 (by decide) (by decide) ⟨rfl, ((((Keep.refl _ [b, w]).ext E2).trans K9 (allS (Or.inr sz_b2) all0)).trans K8 (allS (Or.inl (by simp)) (allS (Or.inl (by simp)) all0))), (WinsAt.cast W8 (by rw [hc1, show dl 0 0 = 1 from by decide]) (by rw [hc1, show dl 0 1 = 0 from by decide, Int64.add_zero]) (by rw [hc1, show dl 0 2 = 0 from by decide, Int64.add_zero]) (by rw [hc1, show dl 0 3 = 0 from by decide, Int64.add_zero]))⟩
  · refine go_ifYes C (pc' := 22) dc_method_3_code_1 ((if0 _ _).trans (feq hc1).2) (by decide) (by decide) ?_
    refine go_iloadN C (pc' := 23) dc_method_3_code_22 rfl rfl ?_
    refine go_iconst C (pc' := 24) dc_method_3_code_23 (z := (1 : Int32)) (by decide) rfl ?_
    by_cases hc5 : c9 = (1 : Int32)
    · refine go_icmpNo C (pc' := 27) dc_method_3_code_24 (teq hc5).2 rfl ?_
      refine go_aloadN C (pc' := 28) dc_method_3_code_27 rfl rfl rfl ?_
      refine go_new C (pc' := 31) (wd_39 hw) (wd_40 hw) (wd_41 hw) dc_method_3_code_28 rfl (by decide) (by decide) ?_
      intro h6 b6 g6 n6 E6 A6 D6
      have sz_b6 := Nat.le_trans (Nat.le_refl _) (Nat.le_of_eq g6.symm)
      have ne_a_RED_b6 : a_RED ≠ b6 := Nat.ne_of_lt (by rw [g6]; exact (EnRED.2.1.ext O.2).lt)
      have ne_a_BLUE_b6 : a_BLUE ≠ b6 := Nat.ne_of_lt (by rw [g6]; exact (EnBLUE.2.1.ext O.2).lt)
      have ne_a_YELLOW_b6 : a_YELLOW ≠ b6 := Nat.ne_of_lt (by rw [g6]; exact (EnYELLOW.2.1.ext O.2).lt)
      have ne_b_b6 : b ≠ b6 := Nat.ne_of_lt (by rw [g6]; exact Wi.1.lt)
      have F6_winner : Fld Z h6 b6 "com/example/hustings/hustings/model/Outcome$Won" "winner" "Lcom/example/hustings/hustings/model/Party;" .null := D6 (Or.inr (wd_65 hw)) (ty := (.object "com/example/hustings/hustings/model/Party")) (by decide)
      have F6_decidedBy : Fld Z h6 b6 "com/example/hustings/hustings/model/Outcome$Won" "decidedBy" "I" (.int (0 : Int32)) := D6 (Or.inr (wd_67 hw)) (ty := .int) (by decide)
      refine go_old fun O6 => ?_
      refine go_dup C (pc' := 32) dc_method_3_code_31 rfl rfl ?_
      refine go_getS C (pc' := 35) (host := "") (Or.inl (wd_102 hw)) Via.refl (EnBLUE.1.ext O6.2) dc_method_3_code_32 rfl ?_
      refine go_iconst C (pc' := 36) dc_method_3_code_35 (z := (1 : Int32)) (by decide) rfl ?_
      refine go_callC C (pc' := 39) (y' := (⟨"com/example/hustings/hustings/model/Outcome$Won", "<init>", "(Lcom/example/hustings/hustings/model/Party;I)V"⟩ : MethodName)) (wd_43 hw) (wd_44 hw) rfl rfl (won_met l Z a0 hw _ _ O6 b6 a_BLUE _ A6 F6_winner F6_decidedBy n6) (wd_45 hw) (wd_41 hw) (by decide) (by decide) (W := 2) (Nat.le_of_ble_eq_true rfl) (by decide) (by decide) (by decide) rfl (a := b6) (argsL := [(.ref a_BLUE), (.int (1 : Int32))]) (rest := [(.ref b6), (.ref b)]) pd_5 rfl rfl rfl dc_method_3_code_36 rfl ?_
      rintro _ h7 ⟨rfl, K9, F9⟩
      refine go_st (st' := [(.ref b6), (.ref b)]) rfl ?_
      refine go_old fun O7 => ?_
      have neb : b ≠ b6 := Nat.ne_of_lt (Nat.lt_of_lt_of_le Wi.1.lt sz_b6)
      have new : w ≠ b6 := Nat.ne_of_lt (Nat.lt_of_lt_of_le Wi.2.2.2.lt sz_b6)
      have Wj := (WinsAt.keep (WinsAt.ext Wi E6) K9 (ninS neb nin0) (ninS new nin0))
      refine go_callV C (pc' := 42) (y' := (⟨"com/example/hustings/hustings/model/Wins", "add", "(Lcom/example/hustings/hustings/model/Outcome;)V"⟩ : MethodName)) (wd_68 hw) (wd_69 hw) (wd_71 hw) (wd_70 hw) (add_1 l Z a0 hw _ _ O7 b b6 w k c0 c1 c2 t Wj nb nw hbw a_BLUE (A6.keep K9) F9 (EnBLUE.2.1.ext O7.2) (EnBLUE.2.2.ext O7.2)) (wd_72 hw) (wd_7 hw) (by decide) (by decide) (W := 0) (Nat.le_of_ble_eq_true rfl) (by decide) (by decide) (by decide) rfl Wj.1 (argsL := [(.ref b6)]) (rest := []) pd_6 rfl rfl rfl dc_method_3_code_39 rfl ?_
      rintro _ h8 ⟨rfl, K8, W8⟩
      refine go_st (st' := []) rfl ?_
      refine go_old fun O8 => ?_
      refine go_goto C (pc' := 84) dc_method_3_code_42 (by decide) (by decide) ?_
      exact go_ret0 C dc_method_3_code_84 (by decide) (by decide) ⟨rfl, ((((Keep.refl _ [b, w]).ext E6).trans K9 (allS (Or.inr sz_b6) all0)).trans K8 (allS (Or.inl (by simp)) (allS (Or.inl (by simp)) all0))), (WinsAt.cast W8 (by rw [hc5, show dl 1 0 = 0 from by decide, Int64.add_zero]) (by rw [hc5, show dl 1 1 = 1 from by decide]) (by rw [hc5, show dl 1 2 = 0 from by decide, Int64.add_zero]) (by rw [hc5, show dl 1 3 = 0 from by decide, Int64.add_zero]))⟩
    · refine go_icmpYes C (pc' := 45) dc_method_3_code_24 (feq hc5).2 (by decide) (by decide) ?_
      refine go_iloadN C (pc' := 46) dc_method_3_code_45 rfl rfl ?_
      refine go_iconst C (pc' := 47) dc_method_3_code_46 (z := (2 : Int32)) (by decide) rfl ?_
      by_cases hc9 : c9 = (2 : Int32)
      · refine go_icmpNo C (pc' := 50) dc_method_3_code_47 (teq hc9).2 rfl ?_
        refine go_aloadN C (pc' := 51) dc_method_3_code_50 rfl rfl rfl ?_
        refine go_new C (pc' := 54) (wd_39 hw) (wd_40 hw) (wd_41 hw) dc_method_3_code_51 rfl (by decide) (by decide) ?_
        intro h10 b10 g10 n10 E10 A10 D10
        have sz_b10 := Nat.le_trans (Nat.le_refl _) (Nat.le_of_eq g10.symm)
        have ne_a_RED_b10 : a_RED ≠ b10 := Nat.ne_of_lt (by rw [g10]; exact (EnRED.2.1.ext O.2).lt)
        have ne_a_BLUE_b10 : a_BLUE ≠ b10 := Nat.ne_of_lt (by rw [g10]; exact (EnBLUE.2.1.ext O.2).lt)
        have ne_a_YELLOW_b10 : a_YELLOW ≠ b10 := Nat.ne_of_lt (by rw [g10]; exact (EnYELLOW.2.1.ext O.2).lt)
        have ne_b_b10 : b ≠ b10 := Nat.ne_of_lt (by rw [g10]; exact Wi.1.lt)
        have F10_winner : Fld Z h10 b10 "com/example/hustings/hustings/model/Outcome$Won" "winner" "Lcom/example/hustings/hustings/model/Party;" .null := D10 (Or.inr (wd_65 hw)) (ty := (.object "com/example/hustings/hustings/model/Party")) (by decide)
        have F10_decidedBy : Fld Z h10 b10 "com/example/hustings/hustings/model/Outcome$Won" "decidedBy" "I" (.int (0 : Int32)) := D10 (Or.inr (wd_67 hw)) (ty := .int) (by decide)
        refine go_old fun O10 => ?_
        refine go_dup C (pc' := 55) dc_method_3_code_54 rfl rfl ?_
        refine go_getS C (pc' := 58) (host := "") (Or.inl (wd_101 hw)) Via.refl (EnYELLOW.1.ext O10.2) dc_method_3_code_55 rfl ?_
        refine go_iconst C (pc' := 59) dc_method_3_code_58 (z := (1 : Int32)) (by decide) rfl ?_
        refine go_callC C (pc' := 62) (y' := (⟨"com/example/hustings/hustings/model/Outcome$Won", "<init>", "(Lcom/example/hustings/hustings/model/Party;I)V"⟩ : MethodName)) (wd_43 hw) (wd_44 hw) rfl rfl (won_met l Z a0 hw _ _ O10 b10 a_YELLOW _ A10 F10_winner F10_decidedBy n10) (wd_45 hw) (wd_41 hw) (by decide) (by decide) (W := 2) (Nat.le_of_ble_eq_true rfl) (by decide) (by decide) (by decide) rfl (a := b10) (argsL := [(.ref a_YELLOW), (.int (1 : Int32))]) (rest := [(.ref b10), (.ref b)]) pd_5 rfl rfl rfl dc_method_3_code_59 rfl ?_
        rintro _ h11 ⟨rfl, K9, F9⟩
        refine go_st (st' := [(.ref b10), (.ref b)]) rfl ?_
        refine go_old fun O11 => ?_
        have neb : b ≠ b10 := Nat.ne_of_lt (Nat.lt_of_lt_of_le Wi.1.lt sz_b10)
        have new : w ≠ b10 := Nat.ne_of_lt (Nat.lt_of_lt_of_le Wi.2.2.2.lt sz_b10)
        have Wj := (WinsAt.keep (WinsAt.ext Wi E10) K9 (ninS neb nin0) (ninS new nin0))
        refine go_callV C (pc' := 65) (y' := (⟨"com/example/hustings/hustings/model/Wins", "add", "(Lcom/example/hustings/hustings/model/Outcome;)V"⟩ : MethodName)) (wd_68 hw) (wd_69 hw) (wd_71 hw) (wd_70 hw) (add_2 l Z a0 hw _ _ O11 b b10 w k c0 c1 c2 t Wj nb nw hbw a_YELLOW (A10.keep K9) F9 (EnYELLOW.2.1.ext O11.2) (EnYELLOW.2.2.ext O11.2)) (wd_72 hw) (wd_7 hw) (by decide) (by decide) (W := 0) (Nat.le_of_ble_eq_true rfl) (by decide) (by decide) (by decide) rfl Wj.1 (argsL := [(.ref b10)]) (rest := []) pd_6 rfl rfl rfl dc_method_3_code_62 rfl ?_
        rintro _ h12 ⟨rfl, K8, W8⟩
        refine go_st (st' := []) rfl ?_
        refine go_old fun O12 => ?_
        refine go_goto C (pc' := 84) dc_method_3_code_65 (by decide) (by decide) ?_
        exact go_ret0 C dc_method_3_code_84 (by decide) (by decide) ⟨rfl, ((((Keep.refl _ [b, w]).ext E10).trans K9 (allS (Or.inr sz_b10) all0)).trans K8 (allS (Or.inl (by simp)) (allS (Or.inl (by simp)) all0))), (WinsAt.cast W8 (by rw [hc9, show dl 2 0 = 0 from by decide, Int64.add_zero]) (by rw [hc9, show dl 2 1 = 0 from by decide, Int64.add_zero]) (by rw [hc9, show dl 2 2 = 1 from by decide]) (by rw [hc9, show dl 2 3 = 0 from by decide, Int64.add_zero]))⟩
      · refine go_icmpYes C (pc' := 68) dc_method_3_code_47 (feq hc9).2 (by decide) (by decide) ?_
        refine go_iloadN C (pc' := 69) dc_method_3_code_68 rfl rfl ?_
        refine go_iconst C (pc' := 70) dc_method_3_code_69 (z := (3 : Int32)) (by decide) rfl ?_
        by_cases hc13 : c9 = (3 : Int32)
        · refine go_icmpNo C (pc' := 73) dc_method_3_code_70 (teq hc13).2 rfl ?_
          refine go_aloadN C (pc' := 74) dc_method_3_code_73 rfl rfl rfl ?_
          refine go_new C (pc' := 77) (wd_89 hw) (wd_90 hw) (wd_91 hw) dc_method_3_code_74 rfl (by decide) (by decide) ?_
          intro h14 b14 g14 n14 E14 A14 D14
          have sz_b14 := Nat.le_trans (Nat.le_refl _) (Nat.le_of_eq g14.symm)
          have ne_a_RED_b14 : a_RED ≠ b14 := Nat.ne_of_lt (by rw [g14]; exact (EnRED.2.1.ext O.2).lt)
          have ne_a_BLUE_b14 : a_BLUE ≠ b14 := Nat.ne_of_lt (by rw [g14]; exact (EnBLUE.2.1.ext O.2).lt)
          have ne_a_YELLOW_b14 : a_YELLOW ≠ b14 := Nat.ne_of_lt (by rw [g14]; exact (EnYELLOW.2.1.ext O.2).lt)
          have ne_b_b14 : b ≠ b14 := Nat.ne_of_lt (by rw [g14]; exact Wi.1.lt)
          refine go_old fun O14 => ?_
          refine go_dup C (pc' := 78) dc_method_3_code_77 rfl rfl ?_
          refine go_callC C (pc' := 81) (y' := (⟨"com/example/hustings/hustings/model/Outcome$Tie", "<init>", "()V"⟩ : MethodName)) (wd_92 hw) (wd_93 hw) rfl rfl (tie_met l Z a0 hw _ _ O14 b14) (wd_94 hw) (wd_91 hw) (by decide) (by decide) (W := 2) (Nat.le_of_ble_eq_true rfl) (by decide) (by decide) (by decide) rfl (a := b14) (argsL := []) (rest := [(.ref b14), (.ref b)]) pd_1 rfl rfl rfl dc_method_3_code_78 rfl ?_
          rintro _ _ ⟨rfl, rfl⟩
          refine go_st (st' := [(.ref b14), (.ref b)]) rfl ?_
          have neb : b ≠ b14 := Nat.ne_of_lt (Nat.lt_of_lt_of_le Wi.1.lt sz_b14)
          have new : w ≠ b14 := Nat.ne_of_lt (Nat.lt_of_lt_of_le Wi.2.2.2.lt sz_b14)
          have Wj := (WinsAt.ext Wi E14)
          refine go_callV C (pc' := 84) (y' := (⟨"com/example/hustings/hustings/model/Wins", "add", "(Lcom/example/hustings/hustings/model/Outcome;)V"⟩ : MethodName)) (wd_68 hw) (wd_69 hw) (wd_71 hw) (wd_70 hw) (add_3 l Z a0 hw _ _ O14 b b14 w k c0 c1 c2 t Wj nb nw hbw A14) (wd_72 hw) (wd_7 hw) (by decide) (by decide) (W := 0) (Nat.le_of_ble_eq_true rfl) (by decide) (by decide) (by decide) rfl Wj.1 (argsL := [(.ref b14)]) (rest := []) pd_6 rfl rfl rfl dc_method_3_code_81 rfl ?_
          rintro _ h15 ⟨rfl, K8, W8⟩
          refine go_st (st' := []) rfl ?_
          refine go_old fun O15 => ?_
          exact go_ret0 C dc_method_3_code_84 (by decide) (by decide) ⟨rfl, (((Keep.refl _ [b, w]).ext E14).trans K8 (allS (Or.inl (by simp)) (allS (Or.inl (by simp)) all0))), (WinsAt.cast W8 (by rw [hc13, show dl 3 0 = 0 from by decide, Int64.add_zero]) (by rw [hc13, show dl 3 1 = 0 from by decide, Int64.add_zero]) (by rw [hc13, show dl 3 2 = 0 from by decide, Int64.add_zero]) (by rw [hc13, show dl 3 3 = 1 from by decide]))⟩
        · refine go_icmpYes C (pc' := 84) dc_method_3_code_70 (feq hc13).2 (by decide) (by decide) ?_
          exact go_ret0 C dc_method_3_code_84 (by decide) (by decide) ⟨rfl, (Keep.refl _ [b, w]), (WinsAt.cast Wi (by rw [show dl c9 0 = 0 from if_neg hc1, Int64.add_zero]) (by rw [show dl c9 1 = 0 from if_neg hc5, Int64.add_zero]) (by rw [show dl c9 2 = 0 from if_neg hc9, Int64.add_zero]) (by rw [show dl c9 3 = 0 from if_neg hc13, Int64.add_zero]))⟩
set_option maxRecDepth 65536 in
set_option maxHeartbeats 4000000 in
theorem all_same (l : Launch) (Z : State) (a0 : Array Value) (hw : ∀ d ∈ tables_1, d.before a0 Z = true) (n0 : Nat) (h : Heap) (O : Old Z n0 h) (b w : Addr) (k : ClassId) (c0 c1 c2 t : Int64) (Wi : WinsAt Z h b w k c0 c1 c2 t) (nb : n0 ≤ b) (nw : n0 ≤ w) (hbw : w ≠ b) :
    Met l Z n0 (⟨"com/example/hustings/hustings/model/Wins", "addAll", "(Lcom/example/hustings/hustings/model/Wins;)V"⟩ : MethodName) prog_32_method_3_code 3 none [] ({ frames := 0, cells := 0, slots := 0, locals := 0 } : Room) #[(.ref b), (.ref b)] h (fun v h' => v = none ∧ Keep h h' [b, w] ∧ WinsAt Z h' b w k (c0 + c0) (c1 + c1) (c2 + c2) (t + t)) := by
  refine met_of (Ls := #[(.val (.ref b)), (.val (.ref b)), .unset]) (by decide +kernel) (fun m => by first | (simp [entryFrame, mkF, argsToLocals, Value.category]; done) | rfl) O ?_
  intro p e s m below meth cd C
  refine go_iconst C (pc' := 1) dc_prog_32_method_3_code_0 (z := (0 : Int32)) (by decide) rfl ?_
  refine go_istoreN C (pc' := 2) dc_prog_32_method_3_code_1 (Ls' := #[(.val (.ref b)), (.val (.ref b)), (.val (.int (0 : Int32)))]) rfl rfl ?_
  refine go_iloadN C (pc' := 3) dc_prog_32_method_3_code_2 rfl rfl ?_
  refine go_aloadN C (pc' := 4) dc_prog_32_method_3_code_3 rfl rfl rfl ?_
  refine go_getF C (pc' := 7) (host := "") (Or.inl (wd_34 hw)) Via.refl Wi.2.1 dc_prog_32_method_3_code_4 rfl ?_
  refine go_alen C (pc' := 8) Wi.2.2.2 (z := (3 : Int32)) rfl dc_prog_32_method_3_code_7 rfl ?_
  refine go_icmpNo C (pc' := 11) dc_prog_32_method_3_code_8 (by decide) rfl ?_
  refine go_aloadN C (pc' := 12) dc_prog_32_method_3_code_11 rfl rfl rfl ?_
  refine go_getF C (pc' := 15) (host := "") (Or.inl (wd_34 hw)) Via.refl Wi.2.1 dc_prog_32_method_3_code_12 rfl ?_
  refine go_iloadN C (pc' := 16) dc_prog_32_method_3_code_15 rfl rfl ?_
  refine go_dup2 C (pc' := 17) dc_prog_32_method_3_code_16 rfl rfl rfl ?_
  refine go_laget C (pc' := 18) Wi.2.2.2 (by decide) (i := 0) (by decide) rfl dc_prog_32_method_3_code_17 rfl ?_
  refine go_aloadN C (pc' := 19) dc_prog_32_method_3_code_18 rfl rfl rfl ?_
  refine go_getF C (pc' := 22) (host := "") (Or.inl (wd_34 hw)) Via.refl Wi.2.1 dc_prog_32_method_3_code_19 rfl ?_
  refine go_iloadN C (pc' := 23) dc_prog_32_method_3_code_22 rfl rfl ?_
  refine go_laget C (pc' := 24) Wi.2.2.2 (by decide) (i := 0) (by decide) rfl dc_prog_32_method_3_code_23 rfl ?_
  refine go_ladd C (pc' := 25) dc_prog_32_method_3_code_24 rfl ?_
  refine go_laset C (pc' := 26) Wi.2.2.2 (by decide) (i := 0) (by decide) (by simp) (vs' := [(.long (c0 + c0)), (.long c1), (.long c2)]) rfl dc_prog_32_method_3_code_25 rfl nw ?_
  intro h1 W1 A1
  refine go_iinc C (pc' := 29) dc_prog_32_method_3_code_26 rfl (Ls' := #[(.val (.ref b)), (.val (.ref b)), (.val (.int ((0 : Int32) + (1 : Int32))))]) rfl rfl ?_
  refine go_ls (Ls' := #[(.val (.ref b)), (.val (.ref b)), (.val (.int (1 : Int32)))]) (by rw [show ((0 : Int32) + (1 : Int32)) = (1 : Int32) from by decide]) ?_
  refine go_goto C (pc' := 2) dc_prog_32_method_3_code_29 (by decide) (by decide) ?_
  refine go_iloadN C (pc' := 3) dc_prog_32_method_3_code_2 rfl rfl ?_
  refine go_aloadN C (pc' := 4) dc_prog_32_method_3_code_3 rfl rfl rfl ?_
  refine go_getF C (pc' := 7) (host := "") (Or.inl (wd_34 hw)) Via.refl (Wi.2.1.other W1 (Or.inl (Ne.symm hbw))) dc_prog_32_method_3_code_4 rfl ?_
  refine go_alen C (pc' := 8) A1 (z := (3 : Int32)) rfl dc_prog_32_method_3_code_7 rfl ?_
  refine go_icmpNo C (pc' := 11) dc_prog_32_method_3_code_8 (by decide) rfl ?_
  refine go_aloadN C (pc' := 12) dc_prog_32_method_3_code_11 rfl rfl rfl ?_
  refine go_getF C (pc' := 15) (host := "") (Or.inl (wd_34 hw)) Via.refl (Wi.2.1.other W1 (Or.inl (Ne.symm hbw))) dc_prog_32_method_3_code_12 rfl ?_
  refine go_iloadN C (pc' := 16) dc_prog_32_method_3_code_15 rfl rfl ?_
  refine go_dup2 C (pc' := 17) dc_prog_32_method_3_code_16 rfl rfl rfl ?_
  refine go_laget C (pc' := 18) A1 (by decide) (i := 1) (by decide) rfl dc_prog_32_method_3_code_17 rfl ?_
  refine go_aloadN C (pc' := 19) dc_prog_32_method_3_code_18 rfl rfl rfl ?_
  refine go_getF C (pc' := 22) (host := "") (Or.inl (wd_34 hw)) Via.refl (Wi.2.1.other W1 (Or.inl (Ne.symm hbw))) dc_prog_32_method_3_code_19 rfl ?_
  refine go_iloadN C (pc' := 23) dc_prog_32_method_3_code_22 rfl rfl ?_
  refine go_laget C (pc' := 24) A1 (by decide) (i := 1) (by decide) rfl dc_prog_32_method_3_code_23 rfl ?_
  refine go_ladd C (pc' := 25) dc_prog_32_method_3_code_24 rfl ?_
  refine go_laset C (pc' := 26) A1 (by decide) (i := 1) (by decide) (by simp) (vs' := [(.long (c0 + c0)), (.long (c1 + c1)), (.long c2)]) rfl dc_prog_32_method_3_code_25 rfl nw ?_
  intro h2 W2 A2
  refine go_iinc C (pc' := 29) dc_prog_32_method_3_code_26 rfl (Ls' := #[(.val (.ref b)), (.val (.ref b)), (.val (.int ((1 : Int32) + (1 : Int32))))]) rfl rfl ?_
  refine go_ls (Ls' := #[(.val (.ref b)), (.val (.ref b)), (.val (.int (2 : Int32)))]) (by rw [show ((1 : Int32) + (1 : Int32)) = (2 : Int32) from by decide]) ?_
  refine go_goto C (pc' := 2) dc_prog_32_method_3_code_29 (by decide) (by decide) ?_
  refine go_iloadN C (pc' := 3) dc_prog_32_method_3_code_2 rfl rfl ?_
  refine go_aloadN C (pc' := 4) dc_prog_32_method_3_code_3 rfl rfl rfl ?_
  refine go_getF C (pc' := 7) (host := "") (Or.inl (wd_34 hw)) Via.refl ((Wi.2.1.other W1 (Or.inl (Ne.symm hbw))).other W2 (Or.inl (Ne.symm hbw))) dc_prog_32_method_3_code_4 rfl ?_
  refine go_alen C (pc' := 8) A2 (z := (3 : Int32)) rfl dc_prog_32_method_3_code_7 rfl ?_
  refine go_icmpNo C (pc' := 11) dc_prog_32_method_3_code_8 (by decide) rfl ?_
  refine go_aloadN C (pc' := 12) dc_prog_32_method_3_code_11 rfl rfl rfl ?_
  refine go_getF C (pc' := 15) (host := "") (Or.inl (wd_34 hw)) Via.refl ((Wi.2.1.other W1 (Or.inl (Ne.symm hbw))).other W2 (Or.inl (Ne.symm hbw))) dc_prog_32_method_3_code_12 rfl ?_
  refine go_iloadN C (pc' := 16) dc_prog_32_method_3_code_15 rfl rfl ?_
  refine go_dup2 C (pc' := 17) dc_prog_32_method_3_code_16 rfl rfl rfl ?_
  refine go_laget C (pc' := 18) A2 (by decide) (i := 2) (by decide) rfl dc_prog_32_method_3_code_17 rfl ?_
  refine go_aloadN C (pc' := 19) dc_prog_32_method_3_code_18 rfl rfl rfl ?_
  refine go_getF C (pc' := 22) (host := "") (Or.inl (wd_34 hw)) Via.refl ((Wi.2.1.other W1 (Or.inl (Ne.symm hbw))).other W2 (Or.inl (Ne.symm hbw))) dc_prog_32_method_3_code_19 rfl ?_
  refine go_iloadN C (pc' := 23) dc_prog_32_method_3_code_22 rfl rfl ?_
  refine go_laget C (pc' := 24) A2 (by decide) (i := 2) (by decide) rfl dc_prog_32_method_3_code_23 rfl ?_
  refine go_ladd C (pc' := 25) dc_prog_32_method_3_code_24 rfl ?_
  refine go_laset C (pc' := 26) A2 (by decide) (i := 2) (by decide) (by simp) (vs' := [(.long (c0 + c0)), (.long (c1 + c1)), (.long (c2 + c2))]) rfl dc_prog_32_method_3_code_25 rfl nw ?_
  intro h3 W3 A3
  refine go_iinc C (pc' := 29) dc_prog_32_method_3_code_26 rfl (Ls' := #[(.val (.ref b)), (.val (.ref b)), (.val (.int ((2 : Int32) + (1 : Int32))))]) rfl rfl ?_
  refine go_ls (Ls' := #[(.val (.ref b)), (.val (.ref b)), (.val (.int (3 : Int32)))]) (by rw [show ((2 : Int32) + (1 : Int32)) = (3 : Int32) from by decide]) ?_
  refine go_goto C (pc' := 2) dc_prog_32_method_3_code_29 (by decide) (by decide) ?_
  refine go_iloadN C (pc' := 3) dc_prog_32_method_3_code_2 rfl rfl ?_
  refine go_aloadN C (pc' := 4) dc_prog_32_method_3_code_3 rfl rfl rfl ?_
  refine go_getF C (pc' := 7) (host := "") (Or.inl (wd_34 hw)) Via.refl (((Wi.2.1.other W1 (Or.inl (Ne.symm hbw))).other W2 (Or.inl (Ne.symm hbw))).other W3 (Or.inl (Ne.symm hbw))) dc_prog_32_method_3_code_4 rfl ?_
  refine go_alen C (pc' := 8) A3 (z := (3 : Int32)) rfl dc_prog_32_method_3_code_7 rfl ?_
  refine go_icmpYes C (pc' := 32) dc_prog_32_method_3_code_8 (by decide) (by decide) (by decide) ?_
  refine go_aloadN C (pc' := 33) dc_prog_32_method_3_code_32 rfl rfl rfl ?_
  refine go_dup C (pc' := 34) dc_prog_32_method_3_code_33 rfl rfl ?_
  refine go_getF C (pc' := 37) (host := "") (Or.inl (wd_99 hw)) Via.refl (((Wi.2.2.1.other W1 (Or.inl (Ne.symm hbw))).other W2 (Or.inl (Ne.symm hbw))).other W3 (Or.inl (Ne.symm hbw))) dc_prog_32_method_3_code_34 rfl ?_
  refine go_aloadN C (pc' := 38) dc_prog_32_method_3_code_37 rfl rfl rfl ?_
  refine go_getF C (pc' := 41) (host := "") (Or.inl (wd_99 hw)) Via.refl (((Wi.2.2.1.other W1 (Or.inl (Ne.symm hbw))).other W2 (Or.inl (Ne.symm hbw))).other W3 (Or.inl (Ne.symm hbw))) dc_prog_32_method_3_code_38 rfl ?_
  refine go_ladd C (pc' := 42) dc_prog_32_method_3_code_41 rfl ?_
  refine go_putF C (pc' := 45) (host := "") (Or.inl (wd_99 hw)) Via.refl (((Wi.2.2.1.other W1 (Or.inl (Ne.symm hbw))).other W2 (Or.inl (Ne.symm hbw))).other W3 (Or.inl (Ne.symm hbw))) (((Wi.1.wr W1).wr W2).wr W3) (Or.inl (wd_100 hw)) (wd_6 hw) (ty := .long) (by decide) rfl rfl dc_prog_32_method_3_code_42 rfl nb ?_
  intro h4 W4 F4
  exact go_ret0 C dc_prog_32_method_3_code_45 (by decide) (by decide) ⟨rfl, (((((Keep.refl _ [b, w]).wr W1 (Or.inl (by simp))).wr W2 (Or.inl (by simp))).wr W3 (Or.inl (by simp))).wr W4 (Or.inl (by simp))), ⟨((((Wi.1.wr W1).wr W2).wr W3).wr W4), ((((Wi.2.1.other W1 (Or.inl (Ne.symm hbw))).other W2 (Or.inl (Ne.symm hbw))).other W3 (Or.inl (Ne.symm hbw))).other W4 (Or.inr (slot_ne (a0 := a0) (Or.inr (wd_35 hw)) (Or.inl (wd_100 hw)) (by decide) (t := (.array .long)) (t' := .long) (by decide) (by decide)))), F4, (A3.other W4 hbw)⟩⟩
set_option maxRecDepth 65536 in
set_option maxHeartbeats 4000000 in
theorem all_other (l : Launch) (Z : State) (a0 : Array Value) (hw : ∀ d ∈ tables_1, d.before a0 Z = true) (n0 : Nat) (h : Heap) (O : Old Z n0 h) (b w : Addr) (k : ClassId) (c0 c1 c2 t : Int64) (Wi : WinsAt Z h b w k c0 c1 c2 t) (nb : n0 ≤ b) (nw : n0 ≤ w) (hbw : w ≠ b) (b2 w2 : Addr) (k2 : ClassId) (d0 d1 d2 t2 : Int64) (Wi2 : WinsAt Z h b2 w2 k2 d0 d1 d2 t2) (n1 : b2 ≠ b) (n2 : b2 ≠ w) (n3 : w2 ≠ b) (n4 : w2 ≠ w) :
    Met l Z n0 (⟨"com/example/hustings/hustings/model/Wins", "addAll", "(Lcom/example/hustings/hustings/model/Wins;)V"⟩ : MethodName) prog_32_method_3_code 3 none [] ({ frames := 0, cells := 0, slots := 0, locals := 0 } : Room) #[(.ref b), (.ref b2)] h (fun v h' => v = none ∧ Keep h h' [b, w] ∧ WinsAt Z h' b w k (c0 + d0) (c1 + d1) (c2 + d2) (t + t2)) := by
  refine met_of (Ls := #[(.val (.ref b)), (.val (.ref b2)), .unset]) (by decide +kernel) (fun m => by first | (simp [entryFrame, mkF, argsToLocals, Value.category]; done) | rfl) O ?_
  intro p e s m below meth cd C
  refine go_iconst C (pc' := 1) dc_prog_32_method_3_code_0 (z := (0 : Int32)) (by decide) rfl ?_
  refine go_istoreN C (pc' := 2) dc_prog_32_method_3_code_1 (Ls' := #[(.val (.ref b)), (.val (.ref b2)), (.val (.int (0 : Int32)))]) rfl rfl ?_
  refine go_iloadN C (pc' := 3) dc_prog_32_method_3_code_2 rfl rfl ?_
  refine go_aloadN C (pc' := 4) dc_prog_32_method_3_code_3 rfl rfl rfl ?_
  refine go_getF C (pc' := 7) (host := "") (Or.inl (wd_34 hw)) Via.refl Wi.2.1 dc_prog_32_method_3_code_4 rfl ?_
  refine go_alen C (pc' := 8) Wi.2.2.2 (z := (3 : Int32)) rfl dc_prog_32_method_3_code_7 rfl ?_
  refine go_icmpNo C (pc' := 11) dc_prog_32_method_3_code_8 (by decide) rfl ?_
  refine go_aloadN C (pc' := 12) dc_prog_32_method_3_code_11 rfl rfl rfl ?_
  refine go_getF C (pc' := 15) (host := "") (Or.inl (wd_34 hw)) Via.refl Wi.2.1 dc_prog_32_method_3_code_12 rfl ?_
  refine go_iloadN C (pc' := 16) dc_prog_32_method_3_code_15 rfl rfl ?_
  refine go_dup2 C (pc' := 17) dc_prog_32_method_3_code_16 rfl rfl rfl ?_
  refine go_laget C (pc' := 18) Wi.2.2.2 (by decide) (i := 0) (by decide) rfl dc_prog_32_method_3_code_17 rfl ?_
  refine go_aloadN C (pc' := 19) dc_prog_32_method_3_code_18 rfl rfl rfl ?_
  refine go_getF C (pc' := 22) (host := "") (Or.inl (wd_34 hw)) Via.refl Wi2.2.1 dc_prog_32_method_3_code_19 rfl ?_
  refine go_iloadN C (pc' := 23) dc_prog_32_method_3_code_22 rfl rfl ?_
  refine go_laget C (pc' := 24) Wi2.2.2.2 (by decide) (i := 0) (by decide) rfl dc_prog_32_method_3_code_23 rfl ?_
  refine go_ladd C (pc' := 25) dc_prog_32_method_3_code_24 rfl ?_
  refine go_laset C (pc' := 26) Wi.2.2.2 (by decide) (i := 0) (by decide) (by simp) (vs' := [(.long (c0 + d0)), (.long c1), (.long c2)]) rfl dc_prog_32_method_3_code_25 rfl nw ?_
  intro h1 W1 A1
  refine go_iinc C (pc' := 29) dc_prog_32_method_3_code_26 rfl (Ls' := #[(.val (.ref b)), (.val (.ref b2)), (.val (.int ((0 : Int32) + (1 : Int32))))]) rfl rfl ?_
  refine go_ls (Ls' := #[(.val (.ref b)), (.val (.ref b2)), (.val (.int (1 : Int32)))]) (by rw [show ((0 : Int32) + (1 : Int32)) = (1 : Int32) from by decide]) ?_
  refine go_goto C (pc' := 2) dc_prog_32_method_3_code_29 (by decide) (by decide) ?_
  refine go_iloadN C (pc' := 3) dc_prog_32_method_3_code_2 rfl rfl ?_
  refine go_aloadN C (pc' := 4) dc_prog_32_method_3_code_3 rfl rfl rfl ?_
  refine go_getF C (pc' := 7) (host := "") (Or.inl (wd_34 hw)) Via.refl (Wi.2.1.other W1 (Or.inl (Ne.symm hbw))) dc_prog_32_method_3_code_4 rfl ?_
  refine go_alen C (pc' := 8) A1 (z := (3 : Int32)) rfl dc_prog_32_method_3_code_7 rfl ?_
  refine go_icmpNo C (pc' := 11) dc_prog_32_method_3_code_8 (by decide) rfl ?_
  refine go_aloadN C (pc' := 12) dc_prog_32_method_3_code_11 rfl rfl rfl ?_
  refine go_getF C (pc' := 15) (host := "") (Or.inl (wd_34 hw)) Via.refl (Wi.2.1.other W1 (Or.inl (Ne.symm hbw))) dc_prog_32_method_3_code_12 rfl ?_
  refine go_iloadN C (pc' := 16) dc_prog_32_method_3_code_15 rfl rfl ?_
  refine go_dup2 C (pc' := 17) dc_prog_32_method_3_code_16 rfl rfl rfl ?_
  refine go_laget C (pc' := 18) A1 (by decide) (i := 1) (by decide) rfl dc_prog_32_method_3_code_17 rfl ?_
  refine go_aloadN C (pc' := 19) dc_prog_32_method_3_code_18 rfl rfl rfl ?_
  refine go_getF C (pc' := 22) (host := "") (Or.inl (wd_34 hw)) Via.refl (Wi2.2.1.other W1 (Or.inl n2)) dc_prog_32_method_3_code_19 rfl ?_
  refine go_iloadN C (pc' := 23) dc_prog_32_method_3_code_22 rfl rfl ?_
  refine go_laget C (pc' := 24) (Wi2.2.2.2.other W1 n4) (by decide) (i := 1) (by decide) rfl dc_prog_32_method_3_code_23 rfl ?_
  refine go_ladd C (pc' := 25) dc_prog_32_method_3_code_24 rfl ?_
  refine go_laset C (pc' := 26) A1 (by decide) (i := 1) (by decide) (by simp) (vs' := [(.long (c0 + d0)), (.long (c1 + d1)), (.long c2)]) rfl dc_prog_32_method_3_code_25 rfl nw ?_
  intro h2 W2 A2
  refine go_iinc C (pc' := 29) dc_prog_32_method_3_code_26 rfl (Ls' := #[(.val (.ref b)), (.val (.ref b2)), (.val (.int ((1 : Int32) + (1 : Int32))))]) rfl rfl ?_
  refine go_ls (Ls' := #[(.val (.ref b)), (.val (.ref b2)), (.val (.int (2 : Int32)))]) (by rw [show ((1 : Int32) + (1 : Int32)) = (2 : Int32) from by decide]) ?_
  refine go_goto C (pc' := 2) dc_prog_32_method_3_code_29 (by decide) (by decide) ?_
  refine go_iloadN C (pc' := 3) dc_prog_32_method_3_code_2 rfl rfl ?_
  refine go_aloadN C (pc' := 4) dc_prog_32_method_3_code_3 rfl rfl rfl ?_
  refine go_getF C (pc' := 7) (host := "") (Or.inl (wd_34 hw)) Via.refl ((Wi.2.1.other W1 (Or.inl (Ne.symm hbw))).other W2 (Or.inl (Ne.symm hbw))) dc_prog_32_method_3_code_4 rfl ?_
  refine go_alen C (pc' := 8) A2 (z := (3 : Int32)) rfl dc_prog_32_method_3_code_7 rfl ?_
  refine go_icmpNo C (pc' := 11) dc_prog_32_method_3_code_8 (by decide) rfl ?_
  refine go_aloadN C (pc' := 12) dc_prog_32_method_3_code_11 rfl rfl rfl ?_
  refine go_getF C (pc' := 15) (host := "") (Or.inl (wd_34 hw)) Via.refl ((Wi.2.1.other W1 (Or.inl (Ne.symm hbw))).other W2 (Or.inl (Ne.symm hbw))) dc_prog_32_method_3_code_12 rfl ?_
  refine go_iloadN C (pc' := 16) dc_prog_32_method_3_code_15 rfl rfl ?_
  refine go_dup2 C (pc' := 17) dc_prog_32_method_3_code_16 rfl rfl rfl ?_
  refine go_laget C (pc' := 18) A2 (by decide) (i := 2) (by decide) rfl dc_prog_32_method_3_code_17 rfl ?_
  refine go_aloadN C (pc' := 19) dc_prog_32_method_3_code_18 rfl rfl rfl ?_
  refine go_getF C (pc' := 22) (host := "") (Or.inl (wd_34 hw)) Via.refl ((Wi2.2.1.other W1 (Or.inl n2)).other W2 (Or.inl n2)) dc_prog_32_method_3_code_19 rfl ?_
  refine go_iloadN C (pc' := 23) dc_prog_32_method_3_code_22 rfl rfl ?_
  refine go_laget C (pc' := 24) ((Wi2.2.2.2.other W1 n4).other W2 n4) (by decide) (i := 2) (by decide) rfl dc_prog_32_method_3_code_23 rfl ?_
  refine go_ladd C (pc' := 25) dc_prog_32_method_3_code_24 rfl ?_
  refine go_laset C (pc' := 26) A2 (by decide) (i := 2) (by decide) (by simp) (vs' := [(.long (c0 + d0)), (.long (c1 + d1)), (.long (c2 + d2))]) rfl dc_prog_32_method_3_code_25 rfl nw ?_
  intro h3 W3 A3
  refine go_iinc C (pc' := 29) dc_prog_32_method_3_code_26 rfl (Ls' := #[(.val (.ref b)), (.val (.ref b2)), (.val (.int ((2 : Int32) + (1 : Int32))))]) rfl rfl ?_
  refine go_ls (Ls' := #[(.val (.ref b)), (.val (.ref b2)), (.val (.int (3 : Int32)))]) (by rw [show ((2 : Int32) + (1 : Int32)) = (3 : Int32) from by decide]) ?_
  refine go_goto C (pc' := 2) dc_prog_32_method_3_code_29 (by decide) (by decide) ?_
  refine go_iloadN C (pc' := 3) dc_prog_32_method_3_code_2 rfl rfl ?_
  refine go_aloadN C (pc' := 4) dc_prog_32_method_3_code_3 rfl rfl rfl ?_
  refine go_getF C (pc' := 7) (host := "") (Or.inl (wd_34 hw)) Via.refl (((Wi.2.1.other W1 (Or.inl (Ne.symm hbw))).other W2 (Or.inl (Ne.symm hbw))).other W3 (Or.inl (Ne.symm hbw))) dc_prog_32_method_3_code_4 rfl ?_
  refine go_alen C (pc' := 8) A3 (z := (3 : Int32)) rfl dc_prog_32_method_3_code_7 rfl ?_
  refine go_icmpYes C (pc' := 32) dc_prog_32_method_3_code_8 (by decide) (by decide) (by decide) ?_
  refine go_aloadN C (pc' := 33) dc_prog_32_method_3_code_32 rfl rfl rfl ?_
  refine go_dup C (pc' := 34) dc_prog_32_method_3_code_33 rfl rfl ?_
  refine go_getF C (pc' := 37) (host := "") (Or.inl (wd_99 hw)) Via.refl (((Wi.2.2.1.other W1 (Or.inl (Ne.symm hbw))).other W2 (Or.inl (Ne.symm hbw))).other W3 (Or.inl (Ne.symm hbw))) dc_prog_32_method_3_code_34 rfl ?_
  refine go_aloadN C (pc' := 38) dc_prog_32_method_3_code_37 rfl rfl rfl ?_
  refine go_getF C (pc' := 41) (host := "") (Or.inl (wd_99 hw)) Via.refl (((Wi2.2.2.1.other W1 (Or.inl n2)).other W2 (Or.inl n2)).other W3 (Or.inl n2)) dc_prog_32_method_3_code_38 rfl ?_
  refine go_ladd C (pc' := 42) dc_prog_32_method_3_code_41 rfl ?_
  refine go_putF C (pc' := 45) (host := "") (Or.inl (wd_99 hw)) Via.refl (((Wi.2.2.1.other W1 (Or.inl (Ne.symm hbw))).other W2 (Or.inl (Ne.symm hbw))).other W3 (Or.inl (Ne.symm hbw))) (((Wi.1.wr W1).wr W2).wr W3) (Or.inl (wd_100 hw)) (wd_6 hw) (ty := .long) (by decide) rfl rfl dc_prog_32_method_3_code_42 rfl nb ?_
  intro h4 W4 F4
  exact go_ret0 C dc_prog_32_method_3_code_45 (by decide) (by decide) ⟨rfl, (((((Keep.refl _ [b, w]).wr W1 (Or.inl (by simp))).wr W2 (Or.inl (by simp))).wr W3 (Or.inl (by simp))).wr W4 (Or.inl (by simp))), ⟨((((Wi.1.wr W1).wr W2).wr W3).wr W4), ((((Wi.2.1.other W1 (Or.inl (Ne.symm hbw))).other W2 (Or.inl (Ne.symm hbw))).other W3 (Or.inl (Ne.symm hbw))).other W4 (Or.inr (slot_ne (a0 := a0) (Or.inr (wd_35 hw)) (Or.inl (wd_100 hw)) (by decide) (t := (.array .long)) (t' := .long) (by decide) (by decide)))), F4, (A3.other W4 hbw)⟩⟩
set_option maxRecDepth 65536 in
set_option maxHeartbeats 4000000 in
theorem of_0 (l : Launch) (Z : State) (a0 : Array Value) (hw : ∀ d ∈ tables_1, d.before a0 Z = true) (n0 : Nat) (h : Heap) (O : Old Z n0 h) (b w : Addr) (k : ClassId) (c0 c1 c2 t : Int64) (Wi : WinsAt Z h b w k c0 c1 c2 t) (nb : n0 ≤ b) (nw : n0 ≤ w) (hbw : w ≠ b) (q : Addr) (Eq : Exa Z h q "com/example/hustings/hustings/model/Party") (Fq : Fld Z h q "java/lang/Enum" "ordinal" "I" (.int (0 : Int32))) :
    Met l Z n0 (⟨"com/example/hustings/hustings/model/Wins", "of", "(Lcom/example/hustings/hustings/model/Party;)J"⟩ : MethodName) prog_32_method_5_code 2 (some .long) [] ({ frames := 1, cells := 0, slots := 0, locals := 13 } : Room) #[(.ref b), (.ref q)] h (fun v h' => v = some (.long c0) ∧ h = h') := by
  refine met_of (Ls := #[(.val (.ref b)), (.val (.ref q))]) (by decide +kernel) (fun m => by first | (simp [entryFrame, mkF, argsToLocals, Value.category]; done) | rfl) O ?_
  intro p e s m below meth cd C
  refine go_aloadN C (pc' := 1) dc_prog_32_method_5_code_0 rfl rfl rfl ?_
  refine go_getF C (pc' := 4) (host := "") (Or.inl (wd_34 hw)) Via.refl Wi.2.1 dc_prog_32_method_5_code_1 rfl ?_
  refine go_aloadN C (pc' := 5) dc_prog_32_method_5_code_4 rfl rfl rfl ?_
  refine go_callU C (pc' := 8) (y' := (⟨"java/lang/Enum", "ordinal", "()I"⟩ : MethodName)) (K1 := "com/example/hustings/hustings/model/Party") (wd_80 hw) (wd_81 hw) (wd_82 hw) (wd_84 hw) (wd_83 hw) (ordinal_met l Z a0 hw _ _ O q _ Fq) (wd_86 hw) (wd_85 hw) (by decide) (by decide) (W := 1) (Nat.le_of_ble_eq_true rfl) (by decide) (by decide) (by decide) rfl Eq (argsL := []) (rest := [(.ref w)]) pd_4 rfl rfl rfl dc_prog_32_method_5_code_5 rfl ?_
  rintro _ _ ⟨rfl, rfl⟩
  refine go_st (st' := [(.int (0 : Int32)), (.ref w)]) rfl ?_
  refine go_laget C (pc' := 9) Wi.2.2.2 (by decide) (i := 0) (by decide) rfl dc_prog_32_method_5_code_8 rfl ?_
  exact go_retL C dc_prog_32_method_5_code_9 (by decide) (by decide) ⟨rfl, rfl⟩
set_option maxRecDepth 65536 in
set_option maxHeartbeats 4000000 in
theorem of_1 (l : Launch) (Z : State) (a0 : Array Value) (hw : ∀ d ∈ tables_1, d.before a0 Z = true) (n0 : Nat) (h : Heap) (O : Old Z n0 h) (b w : Addr) (k : ClassId) (c0 c1 c2 t : Int64) (Wi : WinsAt Z h b w k c0 c1 c2 t) (nb : n0 ≤ b) (nw : n0 ≤ w) (hbw : w ≠ b) (q : Addr) (Eq : Exa Z h q "com/example/hustings/hustings/model/Party") (Fq : Fld Z h q "java/lang/Enum" "ordinal" "I" (.int (1 : Int32))) :
    Met l Z n0 (⟨"com/example/hustings/hustings/model/Wins", "of", "(Lcom/example/hustings/hustings/model/Party;)J"⟩ : MethodName) prog_32_method_5_code 2 (some .long) [] ({ frames := 1, cells := 0, slots := 0, locals := 13 } : Room) #[(.ref b), (.ref q)] h (fun v h' => v = some (.long c1) ∧ h = h') := by
  refine met_of (Ls := #[(.val (.ref b)), (.val (.ref q))]) (by decide +kernel) (fun m => by first | (simp [entryFrame, mkF, argsToLocals, Value.category]; done) | rfl) O ?_
  intro p e s m below meth cd C
  refine go_aloadN C (pc' := 1) dc_prog_32_method_5_code_0 rfl rfl rfl ?_
  refine go_getF C (pc' := 4) (host := "") (Or.inl (wd_34 hw)) Via.refl Wi.2.1 dc_prog_32_method_5_code_1 rfl ?_
  refine go_aloadN C (pc' := 5) dc_prog_32_method_5_code_4 rfl rfl rfl ?_
  refine go_callU C (pc' := 8) (y' := (⟨"java/lang/Enum", "ordinal", "()I"⟩ : MethodName)) (K1 := "com/example/hustings/hustings/model/Party") (wd_80 hw) (wd_81 hw) (wd_82 hw) (wd_84 hw) (wd_83 hw) (ordinal_met l Z a0 hw _ _ O q _ Fq) (wd_86 hw) (wd_85 hw) (by decide) (by decide) (W := 1) (Nat.le_of_ble_eq_true rfl) (by decide) (by decide) (by decide) rfl Eq (argsL := []) (rest := [(.ref w)]) pd_4 rfl rfl rfl dc_prog_32_method_5_code_5 rfl ?_
  rintro _ _ ⟨rfl, rfl⟩
  refine go_st (st' := [(.int (1 : Int32)), (.ref w)]) rfl ?_
  refine go_laget C (pc' := 9) Wi.2.2.2 (by decide) (i := 1) (by decide) rfl dc_prog_32_method_5_code_8 rfl ?_
  exact go_retL C dc_prog_32_method_5_code_9 (by decide) (by decide) ⟨rfl, rfl⟩
set_option maxRecDepth 65536 in
set_option maxHeartbeats 4000000 in
theorem of_2 (l : Launch) (Z : State) (a0 : Array Value) (hw : ∀ d ∈ tables_1, d.before a0 Z = true) (n0 : Nat) (h : Heap) (O : Old Z n0 h) (b w : Addr) (k : ClassId) (c0 c1 c2 t : Int64) (Wi : WinsAt Z h b w k c0 c1 c2 t) (nb : n0 ≤ b) (nw : n0 ≤ w) (hbw : w ≠ b) (q : Addr) (Eq : Exa Z h q "com/example/hustings/hustings/model/Party") (Fq : Fld Z h q "java/lang/Enum" "ordinal" "I" (.int (2 : Int32))) :
    Met l Z n0 (⟨"com/example/hustings/hustings/model/Wins", "of", "(Lcom/example/hustings/hustings/model/Party;)J"⟩ : MethodName) prog_32_method_5_code 2 (some .long) [] ({ frames := 1, cells := 0, slots := 0, locals := 13 } : Room) #[(.ref b), (.ref q)] h (fun v h' => v = some (.long c2) ∧ h = h') := by
  refine met_of (Ls := #[(.val (.ref b)), (.val (.ref q))]) (by decide +kernel) (fun m => by first | (simp [entryFrame, mkF, argsToLocals, Value.category]; done) | rfl) O ?_
  intro p e s m below meth cd C
  refine go_aloadN C (pc' := 1) dc_prog_32_method_5_code_0 rfl rfl rfl ?_
  refine go_getF C (pc' := 4) (host := "") (Or.inl (wd_34 hw)) Via.refl Wi.2.1 dc_prog_32_method_5_code_1 rfl ?_
  refine go_aloadN C (pc' := 5) dc_prog_32_method_5_code_4 rfl rfl rfl ?_
  refine go_callU C (pc' := 8) (y' := (⟨"java/lang/Enum", "ordinal", "()I"⟩ : MethodName)) (K1 := "com/example/hustings/hustings/model/Party") (wd_80 hw) (wd_81 hw) (wd_82 hw) (wd_84 hw) (wd_83 hw) (ordinal_met l Z a0 hw _ _ O q _ Fq) (wd_86 hw) (wd_85 hw) (by decide) (by decide) (W := 1) (Nat.le_of_ble_eq_true rfl) (by decide) (by decide) (by decide) rfl Eq (argsL := []) (rest := [(.ref w)]) pd_4 rfl rfl rfl dc_prog_32_method_5_code_5 rfl ?_
  rintro _ _ ⟨rfl, rfl⟩
  refine go_st (st' := [(.int (2 : Int32)), (.ref w)]) rfl ?_
  refine go_laget C (pc' := 9) Wi.2.2.2 (by decide) (i := 2) (by decide) rfl dc_prog_32_method_5_code_8 rfl ?_
  exact go_retL C dc_prog_32_method_5_code_9 (by decide) (by decide) ⟨rfl, rfl⟩
set_option maxRecDepth 65536 in
set_option maxHeartbeats 4000000 in
theorem ties_met (l : Launch) (Z : State) (a0 : Array Value) (hw : ∀ d ∈ tables_1, d.before a0 Z = true) (n0 : Nat) (h : Heap) (O : Old Z n0 h) (b w : Addr) (k : ClassId) (c0 c1 c2 t : Int64) (Wi : WinsAt Z h b w k c0 c1 c2 t) (nb : n0 ≤ b) (nw : n0 ≤ w) (hbw : w ≠ b) :
    Met l Z n0 (⟨"com/example/hustings/hustings/model/Wins", "ties", "()J"⟩ : MethodName) prog_32_method_6_code 1 (some .long) [] ({ frames := 0, cells := 0, slots := 0, locals := 0 } : Room) #[(.ref b)] h (fun v h' => v = some (.long t) ∧ h = h') := by
  refine met_of (Ls := #[(.val (.ref b))]) (by decide +kernel) (fun m => by first | (simp [entryFrame, mkF, argsToLocals, Value.category]; done) | rfl) O ?_
  intro p e s m below meth cd C
  refine go_aloadN C (pc' := 1) dc_prog_32_method_6_code_0 rfl rfl rfl ?_
  refine go_getF C (pc' := 4) (host := "") (Or.inl (wd_99 hw)) Via.refl Wi.2.2.1 dc_prog_32_method_6_code_1 rfl ?_
  exact go_retL C dc_prog_32_method_6_code_4 (by decide) (by decide) ⟨rfl, rfl⟩
set_option maxRecDepth 65536 in
set_option maxHeartbeats 40000000 in
theorem law_met (l : Launch) (Z : State) (a0 : Array Value) (hw : ∀ d ∈ tables_1, d.before a0 Z = true) (x0 : Int32) (x1 : Int32) (x2 : Int32) (x3 : Int32) (x4 : Int32) {a_RED : Addr} (EnRED : En_RED Z Z.heap a_RED) {a_BLUE : Addr} (EnBLUE : En_BLUE Z Z.heap a_BLUE) {a_YELLOW : Addr} (EnYELLOW : En_YELLOW Z Z.heap a_YELLOW) {a__VALUES : Addr} {k__VALUES : ClassId} (S__VALUES : Sta Z Z.heap "com/example/hustings/hustings/model/Party" "$VALUES" "[Lcom/example/hustings/hustings/model/Party;" (.ref a__VALUES)) (A__VALUES : Ar Z Z.heap a__VALUES (.object "com/example/hustings/hustings/model/Party") k__VALUES [(.ref a_RED), (.ref a_BLUE), (.ref a_YELLOW)]) (EnVAL : Exa Z Z.heap a__VALUES "[Lcom/example/hustings/hustings/model/Party;") :
    Met l Z Z.heap.size x code maxLocals ret tables_1 room_1 #[(.int x0), (.int x1), (.int x2), (.int x3), (.int x4)] Z.heap (fun v _ => v = some (.int (1 : Int32))) := by
  have O := Old.start Z
  refine met_of (Ls := #[(.val (.int x0)), (.val (.int x1)), (.val (.int x2)), (.val (.int x3)), (.val (.int x4)), .unset, .unset, .unset, .unset, .unset, .unset, .unset, .unset, .unset, .unset, .unset, .unset, .unset, .unset, .unset, .unset, .unset, .unset]) (by decide +kernel) (fun m => by first | (simp [entryFrame, mkF, argsToLocals, Value.category, maxLocals]; done) | rfl) O ?_
  intro p e s m below meth cd C
  refine go_iloadN C (pc' := 1) at_0 rfl rfl ?_
  refine go_callS C (pc' := 4) (y' := (⟨"com/example/hustings/hustings/model/WinsAddAllPinLaw", "code", "(I)I"⟩ : MethodName)) (wd_0 hw) (wd_1 hw) (code_met l Z a0 hw _ _ O x0) (wd_3 hw) (wd_2 hw) (by decide) (by decide) (W := 0) (Nat.le_of_ble_eq_true rfl) (by decide) (by decide) (by decide) rfl (argsL := [(.int x0)]) (rest := []) pd_7 rfl rfl rfl at_1 rfl ?_
  rintro _ _ ⟨rfl, rfl⟩
  refine go_st (st' := [(.int ((x0 &&& 2147483647) % 5))]) rfl ?_
  generalize ((x0 &&& (2147483647 : Int32)) % (5 : Int32)) = cp
  refine go_istore C (pc' := 6) at_4 (Ls' := #[(.val (.int x0)), (.val (.int x1)), (.val (.int x2)), (.val (.int x3)), (.val (.int x4)), (.val (.int cp)), .unset, .unset, .unset, .unset, .unset, .unset, .unset, .unset, .unset, .unset, .unset, .unset, .unset, .unset, .unset, .unset, .unset]) rfl rfl ?_
  refine go_iloadN C (pc' := 7) at_6 rfl rfl ?_
  refine go_callS C (pc' := 10) (y' := (⟨"com/example/hustings/hustings/model/WinsAddAllPinLaw", "code", "(I)I"⟩ : MethodName)) (wd_0 hw) (wd_1 hw) (code_met l Z a0 hw _ _ O x1) (wd_3 hw) (wd_2 hw) (by decide) (by decide) (W := 0) (Nat.le_of_ble_eq_true rfl) (by decide) (by decide) (by decide) rfl (argsL := [(.int x1)]) (rest := []) pd_7 rfl rfl rfl at_7 rfl ?_
  rintro _ _ ⟨rfl, rfl⟩
  refine go_st (st' := [(.int ((x1 &&& 2147483647) % 5))]) rfl ?_
  generalize ((x1 &&& (2147483647 : Int32)) % (5 : Int32)) = cq
  refine go_istore C (pc' := 12) at_10 (Ls' := #[(.val (.int x0)), (.val (.int x1)), (.val (.int x2)), (.val (.int x3)), (.val (.int x4)), (.val (.int cp)), (.val (.int cq)), .unset, .unset, .unset, .unset, .unset, .unset, .unset, .unset, .unset, .unset, .unset, .unset, .unset, .unset, .unset, .unset]) rfl rfl ?_
  refine go_iloadN C (pc' := 13) at_12 rfl rfl ?_
  refine go_callS C (pc' := 16) (y' := (⟨"com/example/hustings/hustings/model/WinsAddAllPinLaw", "code", "(I)I"⟩ : MethodName)) (wd_0 hw) (wd_1 hw) (code_met l Z a0 hw _ _ O x2) (wd_3 hw) (wd_2 hw) (by decide) (by decide) (W := 0) (Nat.le_of_ble_eq_true rfl) (by decide) (by decide) (by decide) rfl (argsL := [(.int x2)]) (rest := []) pd_7 rfl rfl rfl at_13 rfl ?_
  rintro _ _ ⟨rfl, rfl⟩
  refine go_st (st' := [(.int ((x2 &&& 2147483647) % 5))]) rfl ?_
  generalize ((x2 &&& (2147483647 : Int32)) % (5 : Int32)) = cr
  refine go_istore C (pc' := 18) at_16 (Ls' := #[(.val (.int x0)), (.val (.int x1)), (.val (.int x2)), (.val (.int x3)), (.val (.int x4)), (.val (.int cp)), (.val (.int cq)), (.val (.int cr)), .unset, .unset, .unset, .unset, .unset, .unset, .unset, .unset, .unset, .unset, .unset, .unset, .unset, .unset, .unset]) rfl rfl ?_
  refine go_iloadN C (pc' := 19) at_18 rfl rfl ?_
  refine go_callS C (pc' := 22) (y' := (⟨"com/example/hustings/hustings/model/WinsAddAllPinLaw", "code", "(I)I"⟩ : MethodName)) (wd_0 hw) (wd_1 hw) (code_met l Z a0 hw _ _ O x3) (wd_3 hw) (wd_2 hw) (by decide) (by decide) (W := 0) (Nat.le_of_ble_eq_true rfl) (by decide) (by decide) (by decide) rfl (argsL := [(.int x3)]) (rest := []) pd_7 rfl rfl rfl at_19 rfl ?_
  rintro _ _ ⟨rfl, rfl⟩
  refine go_st (st' := [(.int ((x3 &&& 2147483647) % 5))]) rfl ?_
  generalize ((x3 &&& (2147483647 : Int32)) % (5 : Int32)) = cs
  refine go_istore C (pc' := 24) at_22 (Ls' := #[(.val (.int x0)), (.val (.int x1)), (.val (.int x2)), (.val (.int x3)), (.val (.int x4)), (.val (.int cp)), (.val (.int cq)), (.val (.int cr)), (.val (.int cs)), .unset, .unset, .unset, .unset, .unset, .unset, .unset, .unset, .unset, .unset, .unset, .unset, .unset, .unset]) rfl rfl ?_
  refine go_iload C (pc' := 26) at_24 rfl rfl ?_
  refine go_iconst C (pc' := 27) at_26 (z := (1 : Int32)) (by decide) rfl ?_
  refine go_iand C (pc' := 28) at_27 rfl ?_
  by_cases hc1 : (x4 &&& (1 : Int32)) = 0
  · refine go_ifYes C (pc' := 35) at_28 ((if0 _ _).trans (teq hc1).1) (by decide) (by decide) ?_
    refine go_iconst C (pc' := 36) at_35 (z := (0 : Int32)) (by decide) rfl ?_
    refine go_istore C (pc' := 38) at_36 (Ls' := #[(.val (.int x0)), (.val (.int x1)), (.val (.int x2)), (.val (.int x3)), (.val (.int x4)), (.val (.int cp)), (.val (.int cq)), (.val (.int cr)), (.val (.int cs)), (.val (.int (0 : Int32))), .unset, .unset, .unset, .unset, .unset, .unset, .unset, .unset, .unset, .unset, .unset, .unset, .unset]) rfl rfl ?_
    refine go_new C (pc' := 41) (wd_5 hw) (wd_6 hw) (wd_7 hw) at_38 rfl (by decide) (by decide) ?_
    intro h2 b2 g2 n2 E2 A2 D2
    have ne_a_RED_b2 : a_RED ≠ b2 := Nat.ne_of_lt (by rw [g2]; exact (EnRED.2.1.ext O.2).lt)
    have ne_a_BLUE_b2 : a_BLUE ≠ b2 := Nat.ne_of_lt (by rw [g2]; exact (EnBLUE.2.1.ext O.2).lt)
    have ne_a_YELLOW_b2 : a_YELLOW ≠ b2 := Nat.ne_of_lt (by rw [g2]; exact (EnYELLOW.2.1.ext O.2).lt)
    have ne_a__VALUES_b2 : a__VALUES ≠ b2 := Nat.ne_of_lt (by rw [g2]; exact (A__VALUES.ext O.2).lt)
    have F2_won : Fld Z h2 b2 "com/example/hustings/hustings/model/Wins" "won" "[J" .null := D2 (Or.inr (wd_35 hw)) (ty := (.array .long)) (by decide)
    have F2_ties : Fld Z h2 b2 "com/example/hustings/hustings/model/Wins" "ties" "J" (.long (0 : Int64)) := D2 (Or.inl (wd_100 hw)) (ty := .long) (by decide)
    refine go_old fun O2 => ?_
    refine go_dup C (pc' := 42) at_41 rfl rfl ?_
    refine go_callC C (pc' := 45) (y' := (⟨"com/example/hustings/hustings/model/Wins", "<init>", "()V"⟩ : MethodName)) (wd_8 hw) (wd_9 hw) rfl rfl (winit_met l Z a0 hw _ _ O2 b2 EnRED EnBLUE EnYELLOW S__VALUES A__VALUES EnVAL A2 F2_won F2_ties n2) (wd_10 hw) (wd_7 hw) (by decide) (by decide) (W := 1) (Nat.le_of_ble_eq_true rfl) (by decide) (by decide) (by decide) rfl (a := b2) (argsL := []) (rest := [(.ref b2)]) pd_1 rfl rfl rfl at_42 rfl ?_
    rintro _ h3 ⟨w1, k1, rfl, Ka, sw1, nw1, hw1, Wa0⟩
    refine go_st (st' := [(.ref b2)]) rfl ?_
    refine go_old fun O3 => ?_
    refine go_astore C (pc' := 47) at_45 rfl (Ls' := #[(.val (.int x0)), (.val (.int x1)), (.val (.int x2)), (.val (.int x3)), (.val (.int x4)), (.val (.int cp)), (.val (.int cq)), (.val (.int cr)), (.val (.int cs)), (.val (.int (0 : Int32))), (.val (.ref b2)), .unset, .unset, .unset, .unset, .unset, .unset, .unset, .unset, .unset, .unset, .unset, .unset]) rfl rfl ?_
    refine go_new C (pc' := 50) (wd_5 hw) (wd_6 hw) (wd_7 hw) at_47 rfl (by decide) (by decide) ?_
    intro h4 b4 g4 n4 E4 A4 D4
    have ne_a_RED_b4 : a_RED ≠ b4 := Nat.ne_of_lt (by rw [g4]; exact (EnRED.2.1.ext O3.2).lt)
    have ne_a_BLUE_b4 : a_BLUE ≠ b4 := Nat.ne_of_lt (by rw [g4]; exact (EnBLUE.2.1.ext O3.2).lt)
    have ne_a_YELLOW_b4 : a_YELLOW ≠ b4 := Nat.ne_of_lt (by rw [g4]; exact (EnYELLOW.2.1.ext O3.2).lt)
    have ne_a__VALUES_b4 : a__VALUES ≠ b4 := Nat.ne_of_lt (by rw [g4]; exact (A__VALUES.ext O3.2).lt)
    have ne_b2_b4 : b2 ≠ b4 := Nat.ne_of_lt (by rw [g4]; exact (A2.keep Ka).lt)
    have F4_won : Fld Z h4 b4 "com/example/hustings/hustings/model/Wins" "won" "[J" .null := D4 (Or.inr (wd_35 hw)) (ty := (.array .long)) (by decide)
    have F4_ties : Fld Z h4 b4 "com/example/hustings/hustings/model/Wins" "ties" "J" (.long (0 : Int64)) := D4 (Or.inl (wd_100 hw)) (ty := .long) (by decide)
    refine go_old fun O4 => ?_
    refine go_dup C (pc' := 51) at_50 rfl rfl ?_
    have lw1 := (WinsAt.ext Wa0 E4).2.2.2.lt
    have lb1 := (WinsAt.ext Wa0 E4).1.lt
    have n_w1_b2 : w1 ≠ b4 := Nat.ne_of_lt (by rw [g4]; exact Wa0.2.2.2.lt)
    have n_b1_b2 : b2 ≠ b4 := Nat.ne_of_lt (by rw [g4]; exact Wa0.1.lt)
    refine go_callC C (pc' := 54) (y' := (⟨"com/example/hustings/hustings/model/Wins", "<init>", "()V"⟩ : MethodName)) (wd_8 hw) (wd_9 hw) rfl rfl (winit_met l Z a0 hw _ _ O4 b4 EnRED EnBLUE EnYELLOW S__VALUES A__VALUES EnVAL A4 F4_won F4_ties n4) (wd_10 hw) (wd_7 hw) (by decide) (by decide) (W := 1) (Nat.le_of_ble_eq_true rfl) (by decide) (by decide) (by decide) rfl (a := b4) (argsL := []) (rest := [(.ref b4)]) pd_1 rfl rfl rfl at_51 rfl ?_
    rintro _ h5 ⟨w2, k2, rfl, Kb, sw2, nw2, hw2, Wb0⟩
    refine go_st (st' := [(.ref b4)]) rfl ?_
    refine go_old fun O5 => ?_
    have n_w1_w2 : w1 ≠ w2 := Nat.ne_of_lt (Nat.lt_of_lt_of_le lw1 sw2)
    have n_b1_w2 : b2 ≠ w2 := Nat.ne_of_lt (Nat.lt_of_lt_of_le lb1 sw2)
    have Wa1 := (WinsAt.ext Wa0 E4).keep Kb (ninS n_b1_b2 nin0) (ninS n_w1_b2 nin0)
    refine go_astore C (pc' := 56) at_54 rfl (Ls' := #[(.val (.int x0)), (.val (.int x1)), (.val (.int x2)), (.val (.int x3)), (.val (.int x4)), (.val (.int cp)), (.val (.int cq)), (.val (.int cr)), (.val (.int cs)), (.val (.int (0 : Int32))), (.val (.ref b2)), (.val (.ref b4)), .unset, .unset, .unset, .unset, .unset, .unset, .unset, .unset, .unset, .unset, .unset]) rfl rfl ?_
    refine go_aload C (pc' := 58) at_56 rfl rfl rfl ?_
    refine go_iload C (pc' := 60) at_58 rfl rfl ?_
    refine go_callS C (pc' := 63) (y' := (⟨"com/example/hustings/hustings/model/WinsAddAllPinLaw", "put", "(Lcom/example/hustings/hustings/model/Wins;I)V"⟩ : MethodName)) (wd_36 hw) (wd_37 hw) (put_met l Z a0 hw _ _ O5 b2 w1 k1 _ _ _ _ Wa1 n2 nw1 hw1 cp EnRED EnBLUE EnYELLOW) (wd_38 hw) (wd_2 hw) (by decide) (by decide) (W := 0) (Nat.le_of_ble_eq_true rfl) (by decide) (by decide) (by decide) rfl (argsL := [(.ref b2), (.int cp)]) (rest := []) pd_8 rfl rfl rfl at_60 rfl ?_
    rintro _ h6 ⟨rfl, Kp0, Wp0⟩
    refine go_st (st' := []) rfl ?_
    refine go_old fun O6 => ?_
    have Wb1 := Wb0.keep Kp0 (ninS (Ne.symm n_b1_b2) (ninS (Ne.symm n_w1_b2) nin0)) (ninS (Ne.symm n_b1_w2) (ninS (Ne.symm n_w1_w2) nin0))
    refine go_aload C (pc' := 65) at_63 rfl rfl rfl ?_
    refine go_iload C (pc' := 67) at_65 rfl rfl ?_
    refine go_callS C (pc' := 70) (y' := (⟨"com/example/hustings/hustings/model/WinsAddAllPinLaw", "put", "(Lcom/example/hustings/hustings/model/Wins;I)V"⟩ : MethodName)) (wd_36 hw) (wd_37 hw) (put_met l Z a0 hw _ _ O6 b2 w1 k1 _ _ _ _ Wp0 n2 nw1 hw1 cq EnRED EnBLUE EnYELLOW) (wd_38 hw) (wd_2 hw) (by decide) (by decide) (W := 0) (Nat.le_of_ble_eq_true rfl) (by decide) (by decide) (by decide) rfl (argsL := [(.ref b2), (.int cq)]) (rest := []) pd_8 rfl rfl rfl at_67 rfl ?_
    rintro _ h7 ⟨rfl, Kp1, Wp1⟩
    refine go_st (st' := []) rfl ?_
    refine go_old fun O7 => ?_
    have Wb2 := Wb1.keep Kp1 (ninS (Ne.symm n_b1_b2) (ninS (Ne.symm n_w1_b2) nin0)) (ninS (Ne.symm n_b1_w2) (ninS (Ne.symm n_w1_w2) nin0))
    refine go_aload C (pc' := 72) at_70 rfl rfl rfl ?_
    refine go_iload C (pc' := 74) at_72 rfl rfl ?_
    refine go_callS C (pc' := 77) (y' := (⟨"com/example/hustings/hustings/model/WinsAddAllPinLaw", "put", "(Lcom/example/hustings/hustings/model/Wins;I)V"⟩ : MethodName)) (wd_36 hw) (wd_37 hw) (put_met l Z a0 hw _ _ O7 b4 w2 k2 _ _ _ _ Wb2 n4 nw2 hw2 cr EnRED EnBLUE EnYELLOW) (wd_38 hw) (wd_2 hw) (by decide) (by decide) (W := 0) (Nat.le_of_ble_eq_true rfl) (by decide) (by decide) (by decide) rfl (argsL := [(.ref b4), (.int cr)]) (rest := []) pd_8 rfl rfl rfl at_74 rfl ?_
    rintro _ h8 ⟨rfl, Kp2, Wp2⟩
    refine go_st (st' := []) rfl ?_
    refine go_old fun O8 => ?_
    have Wa3 := Wp1.keep Kp2 (ninS n_b1_b2 (ninS n_b1_w2 nin0)) (ninS n_w1_b2 (ninS n_w1_w2 nin0))
    refine go_aload C (pc' := 79) at_77 rfl rfl rfl ?_
    refine go_iload C (pc' := 81) at_79 rfl rfl ?_
    refine go_callS C (pc' := 84) (y' := (⟨"com/example/hustings/hustings/model/WinsAddAllPinLaw", "put", "(Lcom/example/hustings/hustings/model/Wins;I)V"⟩ : MethodName)) (wd_36 hw) (wd_37 hw) (put_met l Z a0 hw _ _ O8 b4 w2 k2 _ _ _ _ Wp2 n4 nw2 hw2 cs EnRED EnBLUE EnYELLOW) (wd_38 hw) (wd_2 hw) (by decide) (by decide) (W := 0) (Nat.le_of_ble_eq_true rfl) (by decide) (by decide) (by decide) rfl (argsL := [(.ref b4), (.int cs)]) (rest := []) pd_8 rfl rfl rfl at_81 rfl ?_
    rintro _ h9 ⟨rfl, Kp3, Wp3⟩
    refine go_st (st' := []) rfl ?_
    refine go_old fun O9 => ?_
    have Wa4 := Wa3.keep Kp3 (ninS n_b1_b2 (ninS n_b1_w2 nin0)) (ninS n_w1_b2 (ninS n_w1_w2 nin0))
    refine go_iload C (pc' := 86) at_84 rfl rfl ?_
    refine go_ifYes C (pc' := 94) at_86 (by decide) (by decide) (by decide) ?_
    refine go_aload C (pc' := 96) at_94 rfl rfl rfl ?_
    refine go_astore C (pc' := 98) at_96 rfl (Ls' := #[(.val (.int x0)), (.val (.int x1)), (.val (.int x2)), (.val (.int x3)), (.val (.int x4)), (.val (.int cp)), (.val (.int cq)), (.val (.int cr)), (.val (.int cs)), (.val (.int (0 : Int32))), (.val (.ref b2)), (.val (.ref b4)), (.val (.ref b4)), .unset, .unset, .unset, .unset, .unset, .unset, .unset, .unset, .unset, .unset]) rfl rfl ?_
    refine go_aload C (pc' := 100) at_98 rfl rfl rfl ?_
    refine go_aload C (pc' := 102) at_100 rfl rfl rfl ?_
    refine go_callV C (pc' := 105) (y' := (⟨"com/example/hustings/hustings/model/Wins", "addAll", "(Lcom/example/hustings/hustings/model/Wins;)V"⟩ : MethodName)) (wd_103 hw) (wd_104 hw) (wd_106 hw) (wd_105 hw) (all_other l Z a0 hw _ _ O9 b2 w1 k1 _ _ _ _ Wa4 n2 nw1 hw1 b4 w2 k2 _ _ _ _ Wp3 (Ne.symm n_b1_b2) (Ne.symm n_w1_b2) (Ne.symm n_b1_w2) (Ne.symm n_w1_w2)) (wd_107 hw) (wd_7 hw) (by decide) (by decide) (W := 0) (Nat.le_of_ble_eq_true rfl) (by decide) (by decide) (by decide) rfl Wa4.1 (argsL := [(.ref b4)]) (rest := []) pd_9 rfl rfl rfl at_102 rfl ?_
    rintro _ h10 ⟨rfl, Kz, Wz⟩
    refine go_st (st' := []) rfl ?_
    refine go_old fun O10 => ?_
    have Wy := Wp3.keep Kz (ninS (Ne.symm n_b1_b2) (ninS (Ne.symm n_w1_b2) nin0)) (ninS (Ne.symm n_b1_w2) (ninS (Ne.symm n_w1_w2) nin0))
    refine go_iload C (pc' := 107) at_105 rfl rfl ?_
    refine go_ifYes C (pc' := 125) at_107 (by decide) (by decide) (by decide) ?_
    refine go_iload C (pc' := 127) at_125 rfl rfl ?_
    refine go_iload C (pc' := 129) at_127 rfl rfl ?_
    refine go_iconst C (pc' := 130) at_129 (z := (0 : Int32)) (by decide) rfl ?_
    refine go_callS C (pc' := 133) (y' := (⟨"com/example/hustings/hustings/model/WinsAddAllPinLaw", "cnt", "(III)J"⟩ : MethodName)) (wd_108 hw) (wd_109 hw) (cnt_met l Z a0 hw _ _ O10 cp cq 0) (wd_110 hw) (wd_2 hw) (by decide) (by decide) (W := 0) (Nat.le_of_ble_eq_true rfl) (by decide) (by decide) (by decide) rfl (argsL := [(.int cp), (.int cq), (.int (0 : Int32))]) (rest := []) pd_10 rfl rfl rfl at_130 rfl ?_
    rintro _ _ ⟨rfl, rfl⟩
    refine go_st (st' := [(.long (dl cp 0 + dl cq 0))]) rfl ?_
    refine go_iload C (pc' := 135) at_133 rfl rfl ?_
    refine go_iload C (pc' := 137) at_135 rfl rfl ?_
    refine go_iconst C (pc' := 138) at_137 (z := (0 : Int32)) (by decide) rfl ?_
    refine go_callS C (pc' := 141) (y' := (⟨"com/example/hustings/hustings/model/WinsAddAllPinLaw", "cnt", "(III)J"⟩ : MethodName)) (wd_108 hw) (wd_109 hw) (cnt_met l Z a0 hw _ _ O10 cr cs 0) (wd_110 hw) (wd_2 hw) (by decide) (by decide) (W := 2) (Nat.le_of_ble_eq_true rfl) (by decide) (by decide) (by decide) rfl (argsL := [(.int cr), (.int cs), (.int (0 : Int32))]) (rest := [(.long (dl cp 0 + dl cq 0))]) pd_10 rfl rfl rfl at_138 rfl ?_
    rintro _ _ ⟨rfl, rfl⟩
    refine go_st (st' := [(.long (dl cr 0 + dl cs 0)), (.long (dl cp 0 + dl cq 0))]) rfl ?_
    refine go_ladd C (pc' := 142) at_141 rfl ?_
    refine go_lstore C (pc' := 144) at_142 (Ls' := #[(.val (.int x0)), (.val (.int x1)), (.val (.int x2)), (.val (.int x3)), (.val (.int x4)), (.val (.int cp)), (.val (.int cq)), (.val (.int cr)), (.val (.int cs)), (.val (.int (0 : Int32))), (.val (.ref b2)), (.val (.ref b4)), (.val (.ref b4)), (.val (.long ((dl cp 0 + dl cq 0) + (dl cr 0 + dl cs 0)))), .second, .unset, .unset, .unset, .unset, .unset, .unset, .unset, .unset]) rfl rfl ?_
    refine go_iload C (pc' := 146) at_144 rfl rfl ?_
    refine go_ifYes C (pc' := 164) at_146 (by decide) (by decide) (by decide) ?_
    refine go_iload C (pc' := 166) at_164 rfl rfl ?_
    refine go_iload C (pc' := 168) at_166 rfl rfl ?_
    refine go_iconst C (pc' := 169) at_168 (z := (1 : Int32)) (by decide) rfl ?_
    refine go_callS C (pc' := 172) (y' := (⟨"com/example/hustings/hustings/model/WinsAddAllPinLaw", "cnt", "(III)J"⟩ : MethodName)) (wd_108 hw) (wd_109 hw) (cnt_met l Z a0 hw _ _ O10 cp cq 1) (wd_110 hw) (wd_2 hw) (by decide) (by decide) (W := 0) (Nat.le_of_ble_eq_true rfl) (by decide) (by decide) (by decide) rfl (argsL := [(.int cp), (.int cq), (.int (1 : Int32))]) (rest := []) pd_10 rfl rfl rfl at_169 rfl ?_
    rintro _ _ ⟨rfl, rfl⟩
    refine go_st (st' := [(.long (dl cp 1 + dl cq 1))]) rfl ?_
    refine go_iload C (pc' := 174) at_172 rfl rfl ?_
    refine go_iload C (pc' := 176) at_174 rfl rfl ?_
    refine go_iconst C (pc' := 177) at_176 (z := (1 : Int32)) (by decide) rfl ?_
    refine go_callS C (pc' := 180) (y' := (⟨"com/example/hustings/hustings/model/WinsAddAllPinLaw", "cnt", "(III)J"⟩ : MethodName)) (wd_108 hw) (wd_109 hw) (cnt_met l Z a0 hw _ _ O10 cr cs 1) (wd_110 hw) (wd_2 hw) (by decide) (by decide) (W := 2) (Nat.le_of_ble_eq_true rfl) (by decide) (by decide) (by decide) rfl (argsL := [(.int cr), (.int cs), (.int (1 : Int32))]) (rest := [(.long (dl cp 1 + dl cq 1))]) pd_10 rfl rfl rfl at_177 rfl ?_
    rintro _ _ ⟨rfl, rfl⟩
    refine go_st (st' := [(.long (dl cr 1 + dl cs 1)), (.long (dl cp 1 + dl cq 1))]) rfl ?_
    refine go_ladd C (pc' := 181) at_180 rfl ?_
    refine go_lstore C (pc' := 183) at_181 (Ls' := #[(.val (.int x0)), (.val (.int x1)), (.val (.int x2)), (.val (.int x3)), (.val (.int x4)), (.val (.int cp)), (.val (.int cq)), (.val (.int cr)), (.val (.int cs)), (.val (.int (0 : Int32))), (.val (.ref b2)), (.val (.ref b4)), (.val (.ref b4)), (.val (.long ((dl cp 0 + dl cq 0) + (dl cr 0 + dl cs 0)))), .second, (.val (.long ((dl cp 1 + dl cq 1) + (dl cr 1 + dl cs 1)))), .second, .unset, .unset, .unset, .unset, .unset, .unset]) rfl rfl ?_
    refine go_iload C (pc' := 185) at_183 rfl rfl ?_
    refine go_ifYes C (pc' := 203) at_185 (by decide) (by decide) (by decide) ?_
    refine go_iload C (pc' := 205) at_203 rfl rfl ?_
    refine go_iload C (pc' := 207) at_205 rfl rfl ?_
    refine go_iconst C (pc' := 208) at_207 (z := (2 : Int32)) (by decide) rfl ?_
    refine go_callS C (pc' := 211) (y' := (⟨"com/example/hustings/hustings/model/WinsAddAllPinLaw", "cnt", "(III)J"⟩ : MethodName)) (wd_108 hw) (wd_109 hw) (cnt_met l Z a0 hw _ _ O10 cp cq 2) (wd_110 hw) (wd_2 hw) (by decide) (by decide) (W := 0) (Nat.le_of_ble_eq_true rfl) (by decide) (by decide) (by decide) rfl (argsL := [(.int cp), (.int cq), (.int (2 : Int32))]) (rest := []) pd_10 rfl rfl rfl at_208 rfl ?_
    rintro _ _ ⟨rfl, rfl⟩
    refine go_st (st' := [(.long (dl cp 2 + dl cq 2))]) rfl ?_
    refine go_iload C (pc' := 213) at_211 rfl rfl ?_
    refine go_iload C (pc' := 215) at_213 rfl rfl ?_
    refine go_iconst C (pc' := 216) at_215 (z := (2 : Int32)) (by decide) rfl ?_
    refine go_callS C (pc' := 219) (y' := (⟨"com/example/hustings/hustings/model/WinsAddAllPinLaw", "cnt", "(III)J"⟩ : MethodName)) (wd_108 hw) (wd_109 hw) (cnt_met l Z a0 hw _ _ O10 cr cs 2) (wd_110 hw) (wd_2 hw) (by decide) (by decide) (W := 2) (Nat.le_of_ble_eq_true rfl) (by decide) (by decide) (by decide) rfl (argsL := [(.int cr), (.int cs), (.int (2 : Int32))]) (rest := [(.long (dl cp 2 + dl cq 2))]) pd_10 rfl rfl rfl at_216 rfl ?_
    rintro _ _ ⟨rfl, rfl⟩
    refine go_st (st' := [(.long (dl cr 2 + dl cs 2)), (.long (dl cp 2 + dl cq 2))]) rfl ?_
    refine go_ladd C (pc' := 220) at_219 rfl ?_
    refine go_lstore C (pc' := 222) at_220 (Ls' := #[(.val (.int x0)), (.val (.int x1)), (.val (.int x2)), (.val (.int x3)), (.val (.int x4)), (.val (.int cp)), (.val (.int cq)), (.val (.int cr)), (.val (.int cs)), (.val (.int (0 : Int32))), (.val (.ref b2)), (.val (.ref b4)), (.val (.ref b4)), (.val (.long ((dl cp 0 + dl cq 0) + (dl cr 0 + dl cs 0)))), .second, (.val (.long ((dl cp 1 + dl cq 1) + (dl cr 1 + dl cs 1)))), .second, (.val (.long ((dl cp 2 + dl cq 2) + (dl cr 2 + dl cs 2)))), .second, .unset, .unset, .unset, .unset]) rfl rfl ?_
    refine go_iload C (pc' := 224) at_222 rfl rfl ?_
    refine go_ifYes C (pc' := 242) at_224 (by decide) (by decide) (by decide) ?_
    refine go_iload C (pc' := 244) at_242 rfl rfl ?_
    refine go_iload C (pc' := 246) at_244 rfl rfl ?_
    refine go_iconst C (pc' := 247) at_246 (z := (3 : Int32)) (by decide) rfl ?_
    refine go_callS C (pc' := 250) (y' := (⟨"com/example/hustings/hustings/model/WinsAddAllPinLaw", "cnt", "(III)J"⟩ : MethodName)) (wd_108 hw) (wd_109 hw) (cnt_met l Z a0 hw _ _ O10 cp cq 3) (wd_110 hw) (wd_2 hw) (by decide) (by decide) (W := 0) (Nat.le_of_ble_eq_true rfl) (by decide) (by decide) (by decide) rfl (argsL := [(.int cp), (.int cq), (.int (3 : Int32))]) (rest := []) pd_10 rfl rfl rfl at_247 rfl ?_
    rintro _ _ ⟨rfl, rfl⟩
    refine go_st (st' := [(.long (dl cp 3 + dl cq 3))]) rfl ?_
    refine go_iload C (pc' := 252) at_250 rfl rfl ?_
    refine go_iload C (pc' := 254) at_252 rfl rfl ?_
    refine go_iconst C (pc' := 255) at_254 (z := (3 : Int32)) (by decide) rfl ?_
    refine go_callS C (pc' := 258) (y' := (⟨"com/example/hustings/hustings/model/WinsAddAllPinLaw", "cnt", "(III)J"⟩ : MethodName)) (wd_108 hw) (wd_109 hw) (cnt_met l Z a0 hw _ _ O10 cr cs 3) (wd_110 hw) (wd_2 hw) (by decide) (by decide) (W := 2) (Nat.le_of_ble_eq_true rfl) (by decide) (by decide) (by decide) rfl (argsL := [(.int cr), (.int cs), (.int (3 : Int32))]) (rest := [(.long (dl cp 3 + dl cq 3))]) pd_10 rfl rfl rfl at_255 rfl ?_
    rintro _ _ ⟨rfl, rfl⟩
    refine go_st (st' := [(.long (dl cr 3 + dl cs 3)), (.long (dl cp 3 + dl cq 3))]) rfl ?_
    refine go_ladd C (pc' := 259) at_258 rfl ?_
    refine go_lstore C (pc' := 261) at_259 (Ls' := #[(.val (.int x0)), (.val (.int x1)), (.val (.int x2)), (.val (.int x3)), (.val (.int x4)), (.val (.int cp)), (.val (.int cq)), (.val (.int cr)), (.val (.int cs)), (.val (.int (0 : Int32))), (.val (.ref b2)), (.val (.ref b4)), (.val (.ref b4)), (.val (.long ((dl cp 0 + dl cq 0) + (dl cr 0 + dl cs 0)))), .second, (.val (.long ((dl cp 1 + dl cq 1) + (dl cr 1 + dl cs 1)))), .second, (.val (.long ((dl cp 2 + dl cq 2) + (dl cr 2 + dl cs 2)))), .second, (.val (.long ((dl cp 3 + dl cq 3) + (dl cr 3 + dl cs 3)))), .second, .unset, .unset]) rfl rfl ?_
    refine go_iload C (pc' := 263) at_261 rfl rfl ?_
    refine go_iload C (pc' := 265) at_263 rfl rfl ?_
    refine go_iconst C (pc' := 266) at_265 (z := (0 : Int32)) (by decide) rfl ?_
    refine go_callS C (pc' := 269) (y' := (⟨"com/example/hustings/hustings/model/WinsAddAllPinLaw", "cnt", "(III)J"⟩ : MethodName)) (wd_108 hw) (wd_109 hw) (cnt_met l Z a0 hw _ _ O10 cr cs 0) (wd_110 hw) (wd_2 hw) (by decide) (by decide) (W := 0) (Nat.le_of_ble_eq_true rfl) (by decide) (by decide) (by decide) rfl (argsL := [(.int cr), (.int cs), (.int (0 : Int32))]) (rest := []) pd_10 rfl rfl rfl at_266 rfl ?_
    rintro _ _ ⟨rfl, rfl⟩
    refine go_st (st' := [(.long (dl cr 0 + dl cs 0))]) rfl ?_
    refine go_iload C (pc' := 271) at_269 rfl rfl ?_
    refine go_iload C (pc' := 273) at_271 rfl rfl ?_
    refine go_iconst C (pc' := 274) at_273 (z := (1 : Int32)) (by decide) rfl ?_
    refine go_callS C (pc' := 277) (y' := (⟨"com/example/hustings/hustings/model/WinsAddAllPinLaw", "cnt", "(III)J"⟩ : MethodName)) (wd_108 hw) (wd_109 hw) (cnt_met l Z a0 hw _ _ O10 cr cs 1) (wd_110 hw) (wd_2 hw) (by decide) (by decide) (W := 2) (Nat.le_of_ble_eq_true rfl) (by decide) (by decide) (by decide) rfl (argsL := [(.int cr), (.int cs), (.int (1 : Int32))]) (rest := [(.long (dl cr 0 + dl cs 0))]) pd_10 rfl rfl rfl at_274 rfl ?_
    rintro _ _ ⟨rfl, rfl⟩
    refine go_st (st' := [(.long (dl cr 1 + dl cs 1)), (.long (dl cr 0 + dl cs 0))]) rfl ?_
    refine go_ladd C (pc' := 278) at_277 rfl ?_
    refine go_iload C (pc' := 280) at_278 rfl rfl ?_
    refine go_iload C (pc' := 282) at_280 rfl rfl ?_
    refine go_iconst C (pc' := 283) at_282 (z := (2 : Int32)) (by decide) rfl ?_
    refine go_callS C (pc' := 286) (y' := (⟨"com/example/hustings/hustings/model/WinsAddAllPinLaw", "cnt", "(III)J"⟩ : MethodName)) (wd_108 hw) (wd_109 hw) (cnt_met l Z a0 hw _ _ O10 cr cs 2) (wd_110 hw) (wd_2 hw) (by decide) (by decide) (W := 2) (Nat.le_of_ble_eq_true rfl) (by decide) (by decide) (by decide) rfl (argsL := [(.int cr), (.int cs), (.int (2 : Int32))]) (rest := [(.long ((dl cr 0 + dl cs 0) + (dl cr 1 + dl cs 1)))]) pd_10 rfl rfl rfl at_283 rfl ?_
    rintro _ _ ⟨rfl, rfl⟩
    refine go_st (st' := [(.long (dl cr 2 + dl cs 2)), (.long ((dl cr 0 + dl cs 0) + (dl cr 1 + dl cs 1)))]) rfl ?_
    refine go_ladd C (pc' := 287) at_286 rfl ?_
    refine go_iload C (pc' := 289) at_287 rfl rfl ?_
    refine go_iload C (pc' := 291) at_289 rfl rfl ?_
    refine go_iconst C (pc' := 292) at_291 (z := (3 : Int32)) (by decide) rfl ?_
    refine go_callS C (pc' := 295) (y' := (⟨"com/example/hustings/hustings/model/WinsAddAllPinLaw", "cnt", "(III)J"⟩ : MethodName)) (wd_108 hw) (wd_109 hw) (cnt_met l Z a0 hw _ _ O10 cr cs 3) (wd_110 hw) (wd_2 hw) (by decide) (by decide) (W := 2) (Nat.le_of_ble_eq_true rfl) (by decide) (by decide) (by decide) rfl (argsL := [(.int cr), (.int cs), (.int (3 : Int32))]) (rest := [(.long (((dl cr 0 + dl cs 0) + (dl cr 1 + dl cs 1)) + (dl cr 2 + dl cs 2)))]) pd_10 rfl rfl rfl at_292 rfl ?_
    rintro _ _ ⟨rfl, rfl⟩
    refine go_st (st' := [(.long (dl cr 3 + dl cs 3)), (.long (((dl cr 0 + dl cs 0) + (dl cr 1 + dl cs 1)) + (dl cr 2 + dl cs 2)))]) rfl ?_
    refine go_ladd C (pc' := 296) at_295 rfl ?_
    refine go_lstore C (pc' := 298) at_296 (Ls' := #[(.val (.int x0)), (.val (.int x1)), (.val (.int x2)), (.val (.int x3)), (.val (.int x4)), (.val (.int cp)), (.val (.int cq)), (.val (.int cr)), (.val (.int cs)), (.val (.int (0 : Int32))), (.val (.ref b2)), (.val (.ref b4)), (.val (.ref b4)), (.val (.long ((dl cp 0 + dl cq 0) + (dl cr 0 + dl cs 0)))), .second, (.val (.long ((dl cp 1 + dl cq 1) + (dl cr 1 + dl cs 1)))), .second, (.val (.long ((dl cp 2 + dl cq 2) + (dl cr 2 + dl cs 2)))), .second, (.val (.long ((dl cp 3 + dl cq 3) + (dl cr 3 + dl cs 3)))), .second, (.val (.long ((((dl cr 0 + dl cs 0) + (dl cr 1 + dl cs 1)) + (dl cr 2 + dl cs 2)) + (dl cr 3 + dl cs 3)))), .second]) rfl rfl ?_
    refine go_aload C (pc' := 300) at_298 rfl rfl rfl ?_
    refine go_getS C (pc' := 303) (host := "") (Or.inl (wd_42 hw)) Via.refl (EnRED.1.ext O10.2) at_300 rfl ?_
    refine go_callV C (pc' := 306) (y' := (⟨"com/example/hustings/hustings/model/Wins", "of", "(Lcom/example/hustings/hustings/model/Party;)J"⟩ : MethodName)) (wd_111 hw) (wd_112 hw) (wd_114 hw) (wd_113 hw) (of_0 l Z a0 hw _ _ O10 b2 w1 k1 _ _ _ _ Wz n2 nw1 hw1 a_RED (EnRED.2.1.ext O10.2) (EnRED.2.2.ext O10.2)) (wd_115 hw) (wd_7 hw) (by decide) (by decide) (W := 0) (Nat.le_of_ble_eq_true rfl) (by decide) (by decide) (by decide) rfl Wz.1 (argsL := [(.ref a_RED)]) (rest := []) pd_11 rfl rfl rfl at_303 rfl ?_
    rintro _ _ ⟨rfl, rfl⟩
    refine go_st (st' := [(.long ((0 + dl cp 0 + dl cq 0) + (0 + dl cr 0 + dl cs 0)))]) rfl ?_
    refine go_lload C (pc' := 308) at_306 rfl rfl ?_
    refine go_lcmp C (pc' := 309) at_308 rfl ?_
    refine go_ifNo C (pc' := 312) at_309 ((if0 _ _).trans (teq ((lw_eq _ _).mpr (own_both _ _ _ _))).2) rfl ?_
    refine go_aload C (pc' := 314) at_312 rfl rfl rfl ?_
    refine go_getS C (pc' := 317) (host := "") (Or.inl (wd_102 hw)) Via.refl (EnBLUE.1.ext O10.2) at_314 rfl ?_
    refine go_callV C (pc' := 320) (y' := (⟨"com/example/hustings/hustings/model/Wins", "of", "(Lcom/example/hustings/hustings/model/Party;)J"⟩ : MethodName)) (wd_111 hw) (wd_112 hw) (wd_114 hw) (wd_113 hw) (of_1 l Z a0 hw _ _ O10 b2 w1 k1 _ _ _ _ Wz n2 nw1 hw1 a_BLUE (EnBLUE.2.1.ext O10.2) (EnBLUE.2.2.ext O10.2)) (wd_115 hw) (wd_7 hw) (by decide) (by decide) (W := 0) (Nat.le_of_ble_eq_true rfl) (by decide) (by decide) (by decide) rfl Wz.1 (argsL := [(.ref a_BLUE)]) (rest := []) pd_11 rfl rfl rfl at_317 rfl ?_
    rintro _ _ ⟨rfl, rfl⟩
    refine go_st (st' := [(.long ((0 + dl cp 1 + dl cq 1) + (0 + dl cr 1 + dl cs 1)))]) rfl ?_
    refine go_lload C (pc' := 322) at_320 rfl rfl ?_
    refine go_lcmp C (pc' := 323) at_322 rfl ?_
    refine go_ifNo C (pc' := 326) at_323 ((if0 _ _).trans (teq ((lw_eq _ _).mpr (own_both _ _ _ _))).2) rfl ?_
    refine go_aload C (pc' := 328) at_326 rfl rfl rfl ?_
    refine go_getS C (pc' := 331) (host := "") (Or.inl (wd_101 hw)) Via.refl (EnYELLOW.1.ext O10.2) at_328 rfl ?_
    refine go_callV C (pc' := 334) (y' := (⟨"com/example/hustings/hustings/model/Wins", "of", "(Lcom/example/hustings/hustings/model/Party;)J"⟩ : MethodName)) (wd_111 hw) (wd_112 hw) (wd_114 hw) (wd_113 hw) (of_2 l Z a0 hw _ _ O10 b2 w1 k1 _ _ _ _ Wz n2 nw1 hw1 a_YELLOW (EnYELLOW.2.1.ext O10.2) (EnYELLOW.2.2.ext O10.2)) (wd_115 hw) (wd_7 hw) (by decide) (by decide) (W := 0) (Nat.le_of_ble_eq_true rfl) (by decide) (by decide) (by decide) rfl Wz.1 (argsL := [(.ref a_YELLOW)]) (rest := []) pd_11 rfl rfl rfl at_331 rfl ?_
    rintro _ _ ⟨rfl, rfl⟩
    refine go_st (st' := [(.long ((0 + dl cp 2 + dl cq 2) + (0 + dl cr 2 + dl cs 2)))]) rfl ?_
    refine go_lload C (pc' := 336) at_334 rfl rfl ?_
    refine go_lcmp C (pc' := 337) at_336 rfl ?_
    refine go_ifNo C (pc' := 340) at_337 ((if0 _ _).trans (teq ((lw_eq _ _).mpr (own_both _ _ _ _))).2) rfl ?_
    refine go_aload C (pc' := 342) at_340 rfl rfl rfl ?_
    refine go_callV C (pc' := 345) (y' := (⟨"com/example/hustings/hustings/model/Wins", "ties", "()J"⟩ : MethodName)) (wd_116 hw) (wd_117 hw) (wd_119 hw) (wd_118 hw) (ties_met l Z a0 hw _ _ O10 b2 w1 k1 _ _ _ _ Wz n2 nw1 hw1) (wd_120 hw) (wd_7 hw) (by decide) (by decide) (W := 0) (Nat.le_of_ble_eq_true rfl) (by decide) (by decide) (by decide) rfl Wz.1 (argsL := []) (rest := []) pd_12 rfl rfl rfl at_342 rfl ?_
    rintro _ _ ⟨rfl, rfl⟩
    refine go_st (st' := [(.long ((0 + dl cp 3 + dl cq 3) + (0 + dl cr 3 + dl cs 3)))]) rfl ?_
    refine go_lload C (pc' := 347) at_345 rfl rfl ?_
    refine go_lcmp C (pc' := 348) at_347 rfl ?_
    refine go_ifNo C (pc' := 351) at_348 ((if0 _ _).trans (teq ((lw_eq _ _).mpr (own_both _ _ _ _))).2) rfl ?_
    refine go_aload C (pc' := 353) at_351 rfl rfl rfl ?_
    refine go_callV C (pc' := 356) (y' := (⟨"com/example/hustings/hustings/model/Wins", "games", "()J"⟩ : MethodName)) (wd_121 hw) (wd_122 hw) (wd_124 hw) (wd_123 hw) (games_met l Z a0 hw _ _ O10 b4 w2 k2 _ _ _ _ Wy n4 nw2 hw2) (wd_125 hw) (wd_7 hw) (by decide) (by decide) (W := 0) (Nat.le_of_ble_eq_true rfl) (by decide) (by decide) (by decide) rfl Wy.1 (argsL := []) (rest := []) pd_12 rfl rfl rfl at_353 rfl ?_
    rintro _ _ ⟨rfl, rfl⟩
    refine go_st (st' := [(.long ((0 + dl cr 3 + dl cs 3) + (0 + dl cr 0 + dl cs 0) + (0 + dl cr 1 + dl cs 1) + (0 + dl cr 2 + dl cs 2)))]) rfl ?_
    refine go_lload C (pc' := 358) at_356 rfl rfl ?_
    refine go_lcmp C (pc' := 359) at_358 rfl ?_
    refine go_ifNo C (pc' := 362) at_359 ((if0 _ _).trans (teq ((lw_eq _ _).mpr (own_games _ _ _ _ _ _ _ _))).2) rfl ?_
    refine go_iconst C (pc' := 363) at_362 (z := (1 : Int32)) (by decide) rfl ?_
    refine go_goto C (pc' := 367) at_363 (by decide) (by decide) ?_
    exact go_retN C (by simp) (z' := (1 : Int32)) (by decide) at_367 (by decide) (by decide) rfl
  · refine go_ifNo C (pc' := 31) at_28 ((if0 _ _).trans (feq hc1).1) rfl ?_
    refine go_iconst C (pc' := 32) at_31 (z := (1 : Int32)) (by decide) rfl ?_
    refine go_goto C (pc' := 36) at_32 (by decide) (by decide) ?_
    refine go_istore C (pc' := 38) at_36 (Ls' := #[(.val (.int x0)), (.val (.int x1)), (.val (.int x2)), (.val (.int x3)), (.val (.int x4)), (.val (.int cp)), (.val (.int cq)), (.val (.int cr)), (.val (.int cs)), (.val (.int (1 : Int32))), .unset, .unset, .unset, .unset, .unset, .unset, .unset, .unset, .unset, .unset, .unset, .unset, .unset]) rfl rfl ?_
    refine go_new C (pc' := 41) (wd_5 hw) (wd_6 hw) (wd_7 hw) at_38 rfl (by decide) (by decide) ?_
    intro h11 b11 g11 n11 E11 A11 D11
    have ne_a_RED_b11 : a_RED ≠ b11 := Nat.ne_of_lt (by rw [g11]; exact (EnRED.2.1.ext O.2).lt)
    have ne_a_BLUE_b11 : a_BLUE ≠ b11 := Nat.ne_of_lt (by rw [g11]; exact (EnBLUE.2.1.ext O.2).lt)
    have ne_a_YELLOW_b11 : a_YELLOW ≠ b11 := Nat.ne_of_lt (by rw [g11]; exact (EnYELLOW.2.1.ext O.2).lt)
    have ne_a__VALUES_b11 : a__VALUES ≠ b11 := Nat.ne_of_lt (by rw [g11]; exact (A__VALUES.ext O.2).lt)
    have F11_won : Fld Z h11 b11 "com/example/hustings/hustings/model/Wins" "won" "[J" .null := D11 (Or.inr (wd_35 hw)) (ty := (.array .long)) (by decide)
    have F11_ties : Fld Z h11 b11 "com/example/hustings/hustings/model/Wins" "ties" "J" (.long (0 : Int64)) := D11 (Or.inl (wd_100 hw)) (ty := .long) (by decide)
    refine go_old fun O11 => ?_
    refine go_dup C (pc' := 42) at_41 rfl rfl ?_
    refine go_callC C (pc' := 45) (y' := (⟨"com/example/hustings/hustings/model/Wins", "<init>", "()V"⟩ : MethodName)) (wd_8 hw) (wd_9 hw) rfl rfl (winit_met l Z a0 hw _ _ O11 b11 EnRED EnBLUE EnYELLOW S__VALUES A__VALUES EnVAL A11 F11_won F11_ties n11) (wd_10 hw) (wd_7 hw) (by decide) (by decide) (W := 1) (Nat.le_of_ble_eq_true rfl) (by decide) (by decide) (by decide) rfl (a := b11) (argsL := []) (rest := [(.ref b11)]) pd_1 rfl rfl rfl at_42 rfl ?_
    rintro _ h12 ⟨w1, k1, rfl, Ka, sw1, nw1, hw1, Wa0⟩
    refine go_st (st' := [(.ref b11)]) rfl ?_
    refine go_old fun O12 => ?_
    refine go_astore C (pc' := 47) at_45 rfl (Ls' := #[(.val (.int x0)), (.val (.int x1)), (.val (.int x2)), (.val (.int x3)), (.val (.int x4)), (.val (.int cp)), (.val (.int cq)), (.val (.int cr)), (.val (.int cs)), (.val (.int (1 : Int32))), (.val (.ref b11)), .unset, .unset, .unset, .unset, .unset, .unset, .unset, .unset, .unset, .unset, .unset, .unset]) rfl rfl ?_
    refine go_new C (pc' := 50) (wd_5 hw) (wd_6 hw) (wd_7 hw) at_47 rfl (by decide) (by decide) ?_
    intro h13 b13 g13 n13 E13 A13 D13
    have ne_a_RED_b13 : a_RED ≠ b13 := Nat.ne_of_lt (by rw [g13]; exact (EnRED.2.1.ext O12.2).lt)
    have ne_a_BLUE_b13 : a_BLUE ≠ b13 := Nat.ne_of_lt (by rw [g13]; exact (EnBLUE.2.1.ext O12.2).lt)
    have ne_a_YELLOW_b13 : a_YELLOW ≠ b13 := Nat.ne_of_lt (by rw [g13]; exact (EnYELLOW.2.1.ext O12.2).lt)
    have ne_a__VALUES_b13 : a__VALUES ≠ b13 := Nat.ne_of_lt (by rw [g13]; exact (A__VALUES.ext O12.2).lt)
    have ne_b11_b13 : b11 ≠ b13 := Nat.ne_of_lt (by rw [g13]; exact (A11.keep Ka).lt)
    have F13_won : Fld Z h13 b13 "com/example/hustings/hustings/model/Wins" "won" "[J" .null := D13 (Or.inr (wd_35 hw)) (ty := (.array .long)) (by decide)
    have F13_ties : Fld Z h13 b13 "com/example/hustings/hustings/model/Wins" "ties" "J" (.long (0 : Int64)) := D13 (Or.inl (wd_100 hw)) (ty := .long) (by decide)
    refine go_old fun O13 => ?_
    refine go_dup C (pc' := 51) at_50 rfl rfl ?_
    have lw1 := (WinsAt.ext Wa0 E13).2.2.2.lt
    have lb1 := (WinsAt.ext Wa0 E13).1.lt
    have n_w1_b2 : w1 ≠ b13 := Nat.ne_of_lt (by rw [g13]; exact Wa0.2.2.2.lt)
    have n_b1_b2 : b11 ≠ b13 := Nat.ne_of_lt (by rw [g13]; exact Wa0.1.lt)
    refine go_callC C (pc' := 54) (y' := (⟨"com/example/hustings/hustings/model/Wins", "<init>", "()V"⟩ : MethodName)) (wd_8 hw) (wd_9 hw) rfl rfl (winit_met l Z a0 hw _ _ O13 b13 EnRED EnBLUE EnYELLOW S__VALUES A__VALUES EnVAL A13 F13_won F13_ties n13) (wd_10 hw) (wd_7 hw) (by decide) (by decide) (W := 1) (Nat.le_of_ble_eq_true rfl) (by decide) (by decide) (by decide) rfl (a := b13) (argsL := []) (rest := [(.ref b13)]) pd_1 rfl rfl rfl at_51 rfl ?_
    rintro _ h14 ⟨w2, k2, rfl, Kb, sw2, nw2, hw2, Wb0⟩
    refine go_st (st' := [(.ref b13)]) rfl ?_
    refine go_old fun O14 => ?_
    have n_w1_w2 : w1 ≠ w2 := Nat.ne_of_lt (Nat.lt_of_lt_of_le lw1 sw2)
    have n_b1_w2 : b11 ≠ w2 := Nat.ne_of_lt (Nat.lt_of_lt_of_le lb1 sw2)
    have Wa1 := (WinsAt.ext Wa0 E13).keep Kb (ninS n_b1_b2 nin0) (ninS n_w1_b2 nin0)
    refine go_astore C (pc' := 56) at_54 rfl (Ls' := #[(.val (.int x0)), (.val (.int x1)), (.val (.int x2)), (.val (.int x3)), (.val (.int x4)), (.val (.int cp)), (.val (.int cq)), (.val (.int cr)), (.val (.int cs)), (.val (.int (1 : Int32))), (.val (.ref b11)), (.val (.ref b13)), .unset, .unset, .unset, .unset, .unset, .unset, .unset, .unset, .unset, .unset, .unset]) rfl rfl ?_
    refine go_aload C (pc' := 58) at_56 rfl rfl rfl ?_
    refine go_iload C (pc' := 60) at_58 rfl rfl ?_
    refine go_callS C (pc' := 63) (y' := (⟨"com/example/hustings/hustings/model/WinsAddAllPinLaw", "put", "(Lcom/example/hustings/hustings/model/Wins;I)V"⟩ : MethodName)) (wd_36 hw) (wd_37 hw) (put_met l Z a0 hw _ _ O14 b11 w1 k1 _ _ _ _ Wa1 n11 nw1 hw1 cp EnRED EnBLUE EnYELLOW) (wd_38 hw) (wd_2 hw) (by decide) (by decide) (W := 0) (Nat.le_of_ble_eq_true rfl) (by decide) (by decide) (by decide) rfl (argsL := [(.ref b11), (.int cp)]) (rest := []) pd_8 rfl rfl rfl at_60 rfl ?_
    rintro _ h15 ⟨rfl, Kp0, Wp0⟩
    refine go_st (st' := []) rfl ?_
    refine go_old fun O15 => ?_
    have Wb1 := Wb0.keep Kp0 (ninS (Ne.symm n_b1_b2) (ninS (Ne.symm n_w1_b2) nin0)) (ninS (Ne.symm n_b1_w2) (ninS (Ne.symm n_w1_w2) nin0))
    refine go_aload C (pc' := 65) at_63 rfl rfl rfl ?_
    refine go_iload C (pc' := 67) at_65 rfl rfl ?_
    refine go_callS C (pc' := 70) (y' := (⟨"com/example/hustings/hustings/model/WinsAddAllPinLaw", "put", "(Lcom/example/hustings/hustings/model/Wins;I)V"⟩ : MethodName)) (wd_36 hw) (wd_37 hw) (put_met l Z a0 hw _ _ O15 b11 w1 k1 _ _ _ _ Wp0 n11 nw1 hw1 cq EnRED EnBLUE EnYELLOW) (wd_38 hw) (wd_2 hw) (by decide) (by decide) (W := 0) (Nat.le_of_ble_eq_true rfl) (by decide) (by decide) (by decide) rfl (argsL := [(.ref b11), (.int cq)]) (rest := []) pd_8 rfl rfl rfl at_67 rfl ?_
    rintro _ h16 ⟨rfl, Kp1, Wp1⟩
    refine go_st (st' := []) rfl ?_
    refine go_old fun O16 => ?_
    have Wb2 := Wb1.keep Kp1 (ninS (Ne.symm n_b1_b2) (ninS (Ne.symm n_w1_b2) nin0)) (ninS (Ne.symm n_b1_w2) (ninS (Ne.symm n_w1_w2) nin0))
    refine go_aload C (pc' := 72) at_70 rfl rfl rfl ?_
    refine go_iload C (pc' := 74) at_72 rfl rfl ?_
    refine go_callS C (pc' := 77) (y' := (⟨"com/example/hustings/hustings/model/WinsAddAllPinLaw", "put", "(Lcom/example/hustings/hustings/model/Wins;I)V"⟩ : MethodName)) (wd_36 hw) (wd_37 hw) (put_met l Z a0 hw _ _ O16 b13 w2 k2 _ _ _ _ Wb2 n13 nw2 hw2 cr EnRED EnBLUE EnYELLOW) (wd_38 hw) (wd_2 hw) (by decide) (by decide) (W := 0) (Nat.le_of_ble_eq_true rfl) (by decide) (by decide) (by decide) rfl (argsL := [(.ref b13), (.int cr)]) (rest := []) pd_8 rfl rfl rfl at_74 rfl ?_
    rintro _ h17 ⟨rfl, Kp2, Wp2⟩
    refine go_st (st' := []) rfl ?_
    refine go_old fun O17 => ?_
    have Wa3 := Wp1.keep Kp2 (ninS n_b1_b2 (ninS n_b1_w2 nin0)) (ninS n_w1_b2 (ninS n_w1_w2 nin0))
    refine go_aload C (pc' := 79) at_77 rfl rfl rfl ?_
    refine go_iload C (pc' := 81) at_79 rfl rfl ?_
    refine go_callS C (pc' := 84) (y' := (⟨"com/example/hustings/hustings/model/WinsAddAllPinLaw", "put", "(Lcom/example/hustings/hustings/model/Wins;I)V"⟩ : MethodName)) (wd_36 hw) (wd_37 hw) (put_met l Z a0 hw _ _ O17 b13 w2 k2 _ _ _ _ Wp2 n13 nw2 hw2 cs EnRED EnBLUE EnYELLOW) (wd_38 hw) (wd_2 hw) (by decide) (by decide) (W := 0) (Nat.le_of_ble_eq_true rfl) (by decide) (by decide) (by decide) rfl (argsL := [(.ref b13), (.int cs)]) (rest := []) pd_8 rfl rfl rfl at_81 rfl ?_
    rintro _ h18 ⟨rfl, Kp3, Wp3⟩
    refine go_st (st' := []) rfl ?_
    refine go_old fun O18 => ?_
    have Wa4 := Wa3.keep Kp3 (ninS n_b1_b2 (ninS n_b1_w2 nin0)) (ninS n_w1_b2 (ninS n_w1_w2 nin0))
    refine go_iload C (pc' := 86) at_84 rfl rfl ?_
    refine go_ifNo C (pc' := 89) at_86 (by decide) rfl ?_
    refine go_aload C (pc' := 91) at_89 rfl rfl rfl ?_
    refine go_goto C (pc' := 96) at_91 (by decide) (by decide) ?_
    refine go_astore C (pc' := 98) at_96 rfl (Ls' := #[(.val (.int x0)), (.val (.int x1)), (.val (.int x2)), (.val (.int x3)), (.val (.int x4)), (.val (.int cp)), (.val (.int cq)), (.val (.int cr)), (.val (.int cs)), (.val (.int (1 : Int32))), (.val (.ref b11)), (.val (.ref b13)), (.val (.ref b11)), .unset, .unset, .unset, .unset, .unset, .unset, .unset, .unset, .unset, .unset]) rfl rfl ?_
    refine go_aload C (pc' := 100) at_98 rfl rfl rfl ?_
    refine go_aload C (pc' := 102) at_100 rfl rfl rfl ?_
    refine go_callV C (pc' := 105) (y' := (⟨"com/example/hustings/hustings/model/Wins", "addAll", "(Lcom/example/hustings/hustings/model/Wins;)V"⟩ : MethodName)) (wd_103 hw) (wd_104 hw) (wd_106 hw) (wd_105 hw) (all_same l Z a0 hw _ _ O18 b11 w1 k1 _ _ _ _ Wa4 n11 nw1 hw1) (wd_107 hw) (wd_7 hw) (by decide) (by decide) (W := 0) (Nat.le_of_ble_eq_true rfl) (by decide) (by decide) (by decide) rfl Wa4.1 (argsL := [(.ref b11)]) (rest := []) pd_9 rfl rfl rfl at_102 rfl ?_
    rintro _ h19 ⟨rfl, Kz, Wz⟩
    refine go_st (st' := []) rfl ?_
    refine go_old fun O19 => ?_
    have Wy := Wp3.keep Kz (ninS (Ne.symm n_b1_b2) (ninS (Ne.symm n_w1_b2) nin0)) (ninS (Ne.symm n_b1_w2) (ninS (Ne.symm n_w1_w2) nin0))
    refine go_iload C (pc' := 107) at_105 rfl rfl ?_
    refine go_ifNo C (pc' := 110) at_107 (by decide) rfl ?_
    refine go_ldcLong C (pc' := 113) (wd_126 hw) at_110 rfl ?_
    refine go_iload C (pc' := 115) at_113 rfl rfl ?_
    refine go_iload C (pc' := 117) at_115 rfl rfl ?_
    refine go_iconst C (pc' := 118) at_117 (z := (0 : Int32)) (by decide) rfl ?_
    refine go_callS C (pc' := 121) (y' := (⟨"com/example/hustings/hustings/model/WinsAddAllPinLaw", "cnt", "(III)J"⟩ : MethodName)) (wd_108 hw) (wd_109 hw) (cnt_met l Z a0 hw _ _ O19 cp cq 0) (wd_110 hw) (wd_2 hw) (by decide) (by decide) (W := 2) (Nat.le_of_ble_eq_true rfl) (by decide) (by decide) (by decide) rfl (argsL := [(.int cp), (.int cq), (.int (0 : Int32))]) (rest := [(.long (2 : Int64))]) pd_10 rfl rfl rfl at_118 rfl ?_
    rintro _ _ ⟨rfl, rfl⟩
    refine go_st (st' := [(.long (dl cp 0 + dl cq 0)), (.long (2 : Int64))]) rfl ?_
    refine go_lmul C (pc' := 122) at_121 rfl ?_
    refine go_goto C (pc' := 142) at_122 (by decide) (by decide) ?_
    refine go_lstore C (pc' := 144) at_142 (Ls' := #[(.val (.int x0)), (.val (.int x1)), (.val (.int x2)), (.val (.int x3)), (.val (.int x4)), (.val (.int cp)), (.val (.int cq)), (.val (.int cr)), (.val (.int cs)), (.val (.int (1 : Int32))), (.val (.ref b11)), (.val (.ref b13)), (.val (.ref b11)), (.val (.long ((2 : Int64) * (dl cp 0 + dl cq 0)))), .second, .unset, .unset, .unset, .unset, .unset, .unset, .unset, .unset]) rfl rfl ?_
    refine go_iload C (pc' := 146) at_144 rfl rfl ?_
    refine go_ifNo C (pc' := 149) at_146 (by decide) rfl ?_
    refine go_ldcLong C (pc' := 152) (wd_126 hw) at_149 rfl ?_
    refine go_iload C (pc' := 154) at_152 rfl rfl ?_
    refine go_iload C (pc' := 156) at_154 rfl rfl ?_
    refine go_iconst C (pc' := 157) at_156 (z := (1 : Int32)) (by decide) rfl ?_
    refine go_callS C (pc' := 160) (y' := (⟨"com/example/hustings/hustings/model/WinsAddAllPinLaw", "cnt", "(III)J"⟩ : MethodName)) (wd_108 hw) (wd_109 hw) (cnt_met l Z a0 hw _ _ O19 cp cq 1) (wd_110 hw) (wd_2 hw) (by decide) (by decide) (W := 2) (Nat.le_of_ble_eq_true rfl) (by decide) (by decide) (by decide) rfl (argsL := [(.int cp), (.int cq), (.int (1 : Int32))]) (rest := [(.long (2 : Int64))]) pd_10 rfl rfl rfl at_157 rfl ?_
    rintro _ _ ⟨rfl, rfl⟩
    refine go_st (st' := [(.long (dl cp 1 + dl cq 1)), (.long (2 : Int64))]) rfl ?_
    refine go_lmul C (pc' := 161) at_160 rfl ?_
    refine go_goto C (pc' := 181) at_161 (by decide) (by decide) ?_
    refine go_lstore C (pc' := 183) at_181 (Ls' := #[(.val (.int x0)), (.val (.int x1)), (.val (.int x2)), (.val (.int x3)), (.val (.int x4)), (.val (.int cp)), (.val (.int cq)), (.val (.int cr)), (.val (.int cs)), (.val (.int (1 : Int32))), (.val (.ref b11)), (.val (.ref b13)), (.val (.ref b11)), (.val (.long ((2 : Int64) * (dl cp 0 + dl cq 0)))), .second, (.val (.long ((2 : Int64) * (dl cp 1 + dl cq 1)))), .second, .unset, .unset, .unset, .unset, .unset, .unset]) rfl rfl ?_
    refine go_iload C (pc' := 185) at_183 rfl rfl ?_
    refine go_ifNo C (pc' := 188) at_185 (by decide) rfl ?_
    refine go_ldcLong C (pc' := 191) (wd_126 hw) at_188 rfl ?_
    refine go_iload C (pc' := 193) at_191 rfl rfl ?_
    refine go_iload C (pc' := 195) at_193 rfl rfl ?_
    refine go_iconst C (pc' := 196) at_195 (z := (2 : Int32)) (by decide) rfl ?_
    refine go_callS C (pc' := 199) (y' := (⟨"com/example/hustings/hustings/model/WinsAddAllPinLaw", "cnt", "(III)J"⟩ : MethodName)) (wd_108 hw) (wd_109 hw) (cnt_met l Z a0 hw _ _ O19 cp cq 2) (wd_110 hw) (wd_2 hw) (by decide) (by decide) (W := 2) (Nat.le_of_ble_eq_true rfl) (by decide) (by decide) (by decide) rfl (argsL := [(.int cp), (.int cq), (.int (2 : Int32))]) (rest := [(.long (2 : Int64))]) pd_10 rfl rfl rfl at_196 rfl ?_
    rintro _ _ ⟨rfl, rfl⟩
    refine go_st (st' := [(.long (dl cp 2 + dl cq 2)), (.long (2 : Int64))]) rfl ?_
    refine go_lmul C (pc' := 200) at_199 rfl ?_
    refine go_goto C (pc' := 220) at_200 (by decide) (by decide) ?_
    refine go_lstore C (pc' := 222) at_220 (Ls' := #[(.val (.int x0)), (.val (.int x1)), (.val (.int x2)), (.val (.int x3)), (.val (.int x4)), (.val (.int cp)), (.val (.int cq)), (.val (.int cr)), (.val (.int cs)), (.val (.int (1 : Int32))), (.val (.ref b11)), (.val (.ref b13)), (.val (.ref b11)), (.val (.long ((2 : Int64) * (dl cp 0 + dl cq 0)))), .second, (.val (.long ((2 : Int64) * (dl cp 1 + dl cq 1)))), .second, (.val (.long ((2 : Int64) * (dl cp 2 + dl cq 2)))), .second, .unset, .unset, .unset, .unset]) rfl rfl ?_
    refine go_iload C (pc' := 224) at_222 rfl rfl ?_
    refine go_ifNo C (pc' := 227) at_224 (by decide) rfl ?_
    refine go_ldcLong C (pc' := 230) (wd_126 hw) at_227 rfl ?_
    refine go_iload C (pc' := 232) at_230 rfl rfl ?_
    refine go_iload C (pc' := 234) at_232 rfl rfl ?_
    refine go_iconst C (pc' := 235) at_234 (z := (3 : Int32)) (by decide) rfl ?_
    refine go_callS C (pc' := 238) (y' := (⟨"com/example/hustings/hustings/model/WinsAddAllPinLaw", "cnt", "(III)J"⟩ : MethodName)) (wd_108 hw) (wd_109 hw) (cnt_met l Z a0 hw _ _ O19 cp cq 3) (wd_110 hw) (wd_2 hw) (by decide) (by decide) (W := 2) (Nat.le_of_ble_eq_true rfl) (by decide) (by decide) (by decide) rfl (argsL := [(.int cp), (.int cq), (.int (3 : Int32))]) (rest := [(.long (2 : Int64))]) pd_10 rfl rfl rfl at_235 rfl ?_
    rintro _ _ ⟨rfl, rfl⟩
    refine go_st (st' := [(.long (dl cp 3 + dl cq 3)), (.long (2 : Int64))]) rfl ?_
    refine go_lmul C (pc' := 239) at_238 rfl ?_
    refine go_goto C (pc' := 259) at_239 (by decide) (by decide) ?_
    refine go_lstore C (pc' := 261) at_259 (Ls' := #[(.val (.int x0)), (.val (.int x1)), (.val (.int x2)), (.val (.int x3)), (.val (.int x4)), (.val (.int cp)), (.val (.int cq)), (.val (.int cr)), (.val (.int cs)), (.val (.int (1 : Int32))), (.val (.ref b11)), (.val (.ref b13)), (.val (.ref b11)), (.val (.long ((2 : Int64) * (dl cp 0 + dl cq 0)))), .second, (.val (.long ((2 : Int64) * (dl cp 1 + dl cq 1)))), .second, (.val (.long ((2 : Int64) * (dl cp 2 + dl cq 2)))), .second, (.val (.long ((2 : Int64) * (dl cp 3 + dl cq 3)))), .second, .unset, .unset]) rfl rfl ?_
    refine go_iload C (pc' := 263) at_261 rfl rfl ?_
    refine go_iload C (pc' := 265) at_263 rfl rfl ?_
    refine go_iconst C (pc' := 266) at_265 (z := (0 : Int32)) (by decide) rfl ?_
    refine go_callS C (pc' := 269) (y' := (⟨"com/example/hustings/hustings/model/WinsAddAllPinLaw", "cnt", "(III)J"⟩ : MethodName)) (wd_108 hw) (wd_109 hw) (cnt_met l Z a0 hw _ _ O19 cr cs 0) (wd_110 hw) (wd_2 hw) (by decide) (by decide) (W := 0) (Nat.le_of_ble_eq_true rfl) (by decide) (by decide) (by decide) rfl (argsL := [(.int cr), (.int cs), (.int (0 : Int32))]) (rest := []) pd_10 rfl rfl rfl at_266 rfl ?_
    rintro _ _ ⟨rfl, rfl⟩
    refine go_st (st' := [(.long (dl cr 0 + dl cs 0))]) rfl ?_
    refine go_iload C (pc' := 271) at_269 rfl rfl ?_
    refine go_iload C (pc' := 273) at_271 rfl rfl ?_
    refine go_iconst C (pc' := 274) at_273 (z := (1 : Int32)) (by decide) rfl ?_
    refine go_callS C (pc' := 277) (y' := (⟨"com/example/hustings/hustings/model/WinsAddAllPinLaw", "cnt", "(III)J"⟩ : MethodName)) (wd_108 hw) (wd_109 hw) (cnt_met l Z a0 hw _ _ O19 cr cs 1) (wd_110 hw) (wd_2 hw) (by decide) (by decide) (W := 2) (Nat.le_of_ble_eq_true rfl) (by decide) (by decide) (by decide) rfl (argsL := [(.int cr), (.int cs), (.int (1 : Int32))]) (rest := [(.long (dl cr 0 + dl cs 0))]) pd_10 rfl rfl rfl at_274 rfl ?_
    rintro _ _ ⟨rfl, rfl⟩
    refine go_st (st' := [(.long (dl cr 1 + dl cs 1)), (.long (dl cr 0 + dl cs 0))]) rfl ?_
    refine go_ladd C (pc' := 278) at_277 rfl ?_
    refine go_iload C (pc' := 280) at_278 rfl rfl ?_
    refine go_iload C (pc' := 282) at_280 rfl rfl ?_
    refine go_iconst C (pc' := 283) at_282 (z := (2 : Int32)) (by decide) rfl ?_
    refine go_callS C (pc' := 286) (y' := (⟨"com/example/hustings/hustings/model/WinsAddAllPinLaw", "cnt", "(III)J"⟩ : MethodName)) (wd_108 hw) (wd_109 hw) (cnt_met l Z a0 hw _ _ O19 cr cs 2) (wd_110 hw) (wd_2 hw) (by decide) (by decide) (W := 2) (Nat.le_of_ble_eq_true rfl) (by decide) (by decide) (by decide) rfl (argsL := [(.int cr), (.int cs), (.int (2 : Int32))]) (rest := [(.long ((dl cr 0 + dl cs 0) + (dl cr 1 + dl cs 1)))]) pd_10 rfl rfl rfl at_283 rfl ?_
    rintro _ _ ⟨rfl, rfl⟩
    refine go_st (st' := [(.long (dl cr 2 + dl cs 2)), (.long ((dl cr 0 + dl cs 0) + (dl cr 1 + dl cs 1)))]) rfl ?_
    refine go_ladd C (pc' := 287) at_286 rfl ?_
    refine go_iload C (pc' := 289) at_287 rfl rfl ?_
    refine go_iload C (pc' := 291) at_289 rfl rfl ?_
    refine go_iconst C (pc' := 292) at_291 (z := (3 : Int32)) (by decide) rfl ?_
    refine go_callS C (pc' := 295) (y' := (⟨"com/example/hustings/hustings/model/WinsAddAllPinLaw", "cnt", "(III)J"⟩ : MethodName)) (wd_108 hw) (wd_109 hw) (cnt_met l Z a0 hw _ _ O19 cr cs 3) (wd_110 hw) (wd_2 hw) (by decide) (by decide) (W := 2) (Nat.le_of_ble_eq_true rfl) (by decide) (by decide) (by decide) rfl (argsL := [(.int cr), (.int cs), (.int (3 : Int32))]) (rest := [(.long (((dl cr 0 + dl cs 0) + (dl cr 1 + dl cs 1)) + (dl cr 2 + dl cs 2)))]) pd_10 rfl rfl rfl at_292 rfl ?_
    rintro _ _ ⟨rfl, rfl⟩
    refine go_st (st' := [(.long (dl cr 3 + dl cs 3)), (.long (((dl cr 0 + dl cs 0) + (dl cr 1 + dl cs 1)) + (dl cr 2 + dl cs 2)))]) rfl ?_
    refine go_ladd C (pc' := 296) at_295 rfl ?_
    refine go_lstore C (pc' := 298) at_296 (Ls' := #[(.val (.int x0)), (.val (.int x1)), (.val (.int x2)), (.val (.int x3)), (.val (.int x4)), (.val (.int cp)), (.val (.int cq)), (.val (.int cr)), (.val (.int cs)), (.val (.int (1 : Int32))), (.val (.ref b11)), (.val (.ref b13)), (.val (.ref b11)), (.val (.long ((2 : Int64) * (dl cp 0 + dl cq 0)))), .second, (.val (.long ((2 : Int64) * (dl cp 1 + dl cq 1)))), .second, (.val (.long ((2 : Int64) * (dl cp 2 + dl cq 2)))), .second, (.val (.long ((2 : Int64) * (dl cp 3 + dl cq 3)))), .second, (.val (.long ((((dl cr 0 + dl cs 0) + (dl cr 1 + dl cs 1)) + (dl cr 2 + dl cs 2)) + (dl cr 3 + dl cs 3)))), .second]) rfl rfl ?_
    refine go_aload C (pc' := 300) at_298 rfl rfl rfl ?_
    refine go_getS C (pc' := 303) (host := "") (Or.inl (wd_42 hw)) Via.refl (EnRED.1.ext O19.2) at_300 rfl ?_
    refine go_callV C (pc' := 306) (y' := (⟨"com/example/hustings/hustings/model/Wins", "of", "(Lcom/example/hustings/hustings/model/Party;)J"⟩ : MethodName)) (wd_111 hw) (wd_112 hw) (wd_114 hw) (wd_113 hw) (of_0 l Z a0 hw _ _ O19 b11 w1 k1 _ _ _ _ Wz n11 nw1 hw1 a_RED (EnRED.2.1.ext O19.2) (EnRED.2.2.ext O19.2)) (wd_115 hw) (wd_7 hw) (by decide) (by decide) (W := 0) (Nat.le_of_ble_eq_true rfl) (by decide) (by decide) (by decide) rfl Wz.1 (argsL := [(.ref a_RED)]) (rest := []) pd_11 rfl rfl rfl at_303 rfl ?_
    rintro _ _ ⟨rfl, rfl⟩
    refine go_st (st' := [(.long ((0 + dl cp 0 + dl cq 0) + (0 + dl cp 0 + dl cq 0)))]) rfl ?_
    refine go_lload C (pc' := 308) at_306 rfl rfl ?_
    refine go_lcmp C (pc' := 309) at_308 rfl ?_
    refine go_ifNo C (pc' := 312) at_309 ((if0 _ _).trans (teq ((lw_eq _ _).mpr (own_two _ _))).2) rfl ?_
    refine go_aload C (pc' := 314) at_312 rfl rfl rfl ?_
    refine go_getS C (pc' := 317) (host := "") (Or.inl (wd_102 hw)) Via.refl (EnBLUE.1.ext O19.2) at_314 rfl ?_
    refine go_callV C (pc' := 320) (y' := (⟨"com/example/hustings/hustings/model/Wins", "of", "(Lcom/example/hustings/hustings/model/Party;)J"⟩ : MethodName)) (wd_111 hw) (wd_112 hw) (wd_114 hw) (wd_113 hw) (of_1 l Z a0 hw _ _ O19 b11 w1 k1 _ _ _ _ Wz n11 nw1 hw1 a_BLUE (EnBLUE.2.1.ext O19.2) (EnBLUE.2.2.ext O19.2)) (wd_115 hw) (wd_7 hw) (by decide) (by decide) (W := 0) (Nat.le_of_ble_eq_true rfl) (by decide) (by decide) (by decide) rfl Wz.1 (argsL := [(.ref a_BLUE)]) (rest := []) pd_11 rfl rfl rfl at_317 rfl ?_
    rintro _ _ ⟨rfl, rfl⟩
    refine go_st (st' := [(.long ((0 + dl cp 1 + dl cq 1) + (0 + dl cp 1 + dl cq 1)))]) rfl ?_
    refine go_lload C (pc' := 322) at_320 rfl rfl ?_
    refine go_lcmp C (pc' := 323) at_322 rfl ?_
    refine go_ifNo C (pc' := 326) at_323 ((if0 _ _).trans (teq ((lw_eq _ _).mpr (own_two _ _))).2) rfl ?_
    refine go_aload C (pc' := 328) at_326 rfl rfl rfl ?_
    refine go_getS C (pc' := 331) (host := "") (Or.inl (wd_101 hw)) Via.refl (EnYELLOW.1.ext O19.2) at_328 rfl ?_
    refine go_callV C (pc' := 334) (y' := (⟨"com/example/hustings/hustings/model/Wins", "of", "(Lcom/example/hustings/hustings/model/Party;)J"⟩ : MethodName)) (wd_111 hw) (wd_112 hw) (wd_114 hw) (wd_113 hw) (of_2 l Z a0 hw _ _ O19 b11 w1 k1 _ _ _ _ Wz n11 nw1 hw1 a_YELLOW (EnYELLOW.2.1.ext O19.2) (EnYELLOW.2.2.ext O19.2)) (wd_115 hw) (wd_7 hw) (by decide) (by decide) (W := 0) (Nat.le_of_ble_eq_true rfl) (by decide) (by decide) (by decide) rfl Wz.1 (argsL := [(.ref a_YELLOW)]) (rest := []) pd_11 rfl rfl rfl at_331 rfl ?_
    rintro _ _ ⟨rfl, rfl⟩
    refine go_st (st' := [(.long ((0 + dl cp 2 + dl cq 2) + (0 + dl cp 2 + dl cq 2)))]) rfl ?_
    refine go_lload C (pc' := 336) at_334 rfl rfl ?_
    refine go_lcmp C (pc' := 337) at_336 rfl ?_
    refine go_ifNo C (pc' := 340) at_337 ((if0 _ _).trans (teq ((lw_eq _ _).mpr (own_two _ _))).2) rfl ?_
    refine go_aload C (pc' := 342) at_340 rfl rfl rfl ?_
    refine go_callV C (pc' := 345) (y' := (⟨"com/example/hustings/hustings/model/Wins", "ties", "()J"⟩ : MethodName)) (wd_116 hw) (wd_117 hw) (wd_119 hw) (wd_118 hw) (ties_met l Z a0 hw _ _ O19 b11 w1 k1 _ _ _ _ Wz n11 nw1 hw1) (wd_120 hw) (wd_7 hw) (by decide) (by decide) (W := 0) (Nat.le_of_ble_eq_true rfl) (by decide) (by decide) (by decide) rfl Wz.1 (argsL := []) (rest := []) pd_12 rfl rfl rfl at_342 rfl ?_
    rintro _ _ ⟨rfl, rfl⟩
    refine go_st (st' := [(.long ((0 + dl cp 3 + dl cq 3) + (0 + dl cp 3 + dl cq 3)))]) rfl ?_
    refine go_lload C (pc' := 347) at_345 rfl rfl ?_
    refine go_lcmp C (pc' := 348) at_347 rfl ?_
    refine go_ifNo C (pc' := 351) at_348 ((if0 _ _).trans (teq ((lw_eq _ _).mpr (own_two _ _))).2) rfl ?_
    refine go_aload C (pc' := 353) at_351 rfl rfl rfl ?_
    refine go_callV C (pc' := 356) (y' := (⟨"com/example/hustings/hustings/model/Wins", "games", "()J"⟩ : MethodName)) (wd_121 hw) (wd_122 hw) (wd_124 hw) (wd_123 hw) (games_met l Z a0 hw _ _ O19 b13 w2 k2 _ _ _ _ Wy n13 nw2 hw2) (wd_125 hw) (wd_7 hw) (by decide) (by decide) (W := 0) (Nat.le_of_ble_eq_true rfl) (by decide) (by decide) (by decide) rfl Wy.1 (argsL := []) (rest := []) pd_12 rfl rfl rfl at_353 rfl ?_
    rintro _ _ ⟨rfl, rfl⟩
    refine go_st (st' := [(.long ((0 + dl cr 3 + dl cs 3) + (0 + dl cr 0 + dl cs 0) + (0 + dl cr 1 + dl cs 1) + (0 + dl cr 2 + dl cs 2)))]) rfl ?_
    refine go_lload C (pc' := 358) at_356 rfl rfl ?_
    refine go_lcmp C (pc' := 359) at_358 rfl ?_
    refine go_ifNo C (pc' := 362) at_359 ((if0 _ _).trans (teq ((lw_eq _ _).mpr (own_games _ _ _ _ _ _ _ _))).2) rfl ?_
    refine go_iconst C (pc' := 363) at_362 (z := (1 : Int32)) (by decide) rfl ?_
    refine go_goto C (pc' := 367) at_363 (by decide) (by decide) ?_
    exact go_retN C (by simp) (z' := (1 : Int32)) (by decide) at_367 (by decide) (by decide) rfl
set_option maxRecDepth 65536 in
set_option maxHeartbeats 40000000 in
theorem comes_1 {Post : Tables → Env → Array Value → State → Outcome → State → Prop} (hpost : ∀ tb e args s v u, (limb_1_1.after args s (.returned v) u = true ∧ limb_1_2.after args s (.returned v) u = true ∧ True) → ReturnedEndW s (.returned v) u (Jvm.fieldLocs frame_1_writes args s ++ Jvm.arrayLocs frame_1_arrays args s ++ Jvm.staticLocs frame_1_statics s) 32 1152 → Post tb e args s (.returned v) u) :
    ArmFor flags0 classFile x code maxLocals ret World_1 tables_1 room_1 Calls_1 rest_1 Pre_1 Post := by
  intro l hfl _ _ p e ha hc hk s m args below hf hA hF happ hP
  obtain ⟨hcalls, hrest, hpre⟩ := hP
  obtain ⟨-, -, -, hnamed, -, -, -, hat⟩ := (Spec.applies_iff hf).mp happ
  obtain ⟨hg, hn⟩ := and_e (Cond.before_iff.mp (show (Jvm.Cond.and given_1 narrow_1).before args s = true from hpre))
  obtain ⟨hcount, g0⟩ := and_e hg
  obtain ⟨w0, w1, w2, w3, w4, rfl⟩ : ∃ w0 w1 w2 w3 w4 : Value, args = #[w0, w1, w2, w3, w4] := by
    have hs : args.size = 5 := by simpa [Cond.value, given_1] using hcount
    obtain ⟨L⟩ := args
    match L, hs with
    | [w0, w1, w2, w3, w4], _ => exact ⟨w0, w1, w2, w3, w4, rfl⟩
  have hw := fun d (hd : d ∈ tables_1) => atoms_spec (ws := Jvm.Cond.code x code maxLocals ret :: tables_1) hat d (List.mem_cons_of_mem _ hd)
  have hfit : Fit s := fun {y c} hc i hi => by
    obtain ⟨ha, rfl⟩ := Array.getElem?_eq_some_iff.mp hc
    have q := List.all_eq_true.mp ((Array.all_eq_true_iff_forall_mem.mp hF) _ (Array.getElem_mem ha)) i (List.mem_range.mpr hi)
    simpa [Array.getElem?_eq_getElem hi] using q
  obtain ⟨u0, g1⟩ := and_e g0
  obtain ⟨i0, e0⟩ := is_v u0
  obtain rfl : w0 = (.int i0) := Option.some.inj e0
  obtain ⟨u1, g2⟩ := and_e g1
  obtain ⟨i1, e1⟩ := is_v u1
  obtain rfl : w1 = (.int i1) := Option.some.inj e1
  obtain ⟨u2, g3⟩ := and_e g2
  obtain ⟨i2, e2⟩ := is_v u2
  obtain rfl : w2 = (.int i2) := Option.some.inj e2
  obtain ⟨u3, g4⟩ := and_e g3
  obtain ⟨i3, e3⟩ := is_v u3
  obtain rfl : w3 = (.int i3) := Option.some.inj e3
  obtain ⟨i4, e4⟩ := is_v g4
  obtain rfl : w4 = (.int i4) := Option.some.inj e4
  obtain ⟨q0, r0⟩ := and_e hn
  obtain ⟨q1, r1⟩ := and_e r0
  obtain ⟨q2, r2⟩ := and_e r1
  obtain ⟨q3, r3⟩ := and_e r2
  obtain ⟨q4, r4⟩ := and_e r3
  obtain ⟨q5, r5⟩ := and_e r4
  obtain ⟨q6, r6⟩ := and_e r5
  obtain ⟨q7, r7⟩ := and_e r6
  obtain ⟨q8, r8⟩ := and_e r7
  obtain ⟨q9, r9⟩ := and_e r8
  obtain ⟨q10, r10⟩ := and_e r9
  have q11 := r10
  obtain ⟨a_RED, v_RED⟩ := exa_v q3
  have EnRED : En_RED s s.heap a_RED := ⟨Sta.start v_RED (Or.inr ⟨(wd_16 hw), (wd_27 hw)⟩), Exa.start v_RED q3, Fld.start ((fld_at v_RED).symm.trans (own_eqI q9))⟩
  obtain ⟨a_BLUE, v_BLUE⟩ := exa_v q5
  have EnBLUE : En_BLUE s s.heap a_BLUE := ⟨Sta.start v_BLUE (Or.inr ⟨(wd_16 hw), (wd_28 hw)⟩), Exa.start v_BLUE q5, Fld.start ((fld_at v_BLUE).symm.trans (own_eqI q11))⟩
  obtain ⟨a_YELLOW, v_YELLOW⟩ := exa_v q7
  have EnYELLOW : En_YELLOW s s.heap a_YELLOW := ⟨Sta.start v_YELLOW (Or.inr ⟨(wd_16 hw), (wd_29 hw)⟩), Exa.start v_YELLOW q7, Fld.start ((fld_at v_YELLOW).symm.trans (own_eqI q10))⟩
  obtain ⟨a__VALUES, v__VALUES⟩ := arr_v q0
  have S__VALUES := Sta.start v__VALUES (Or.inr ⟨(wd_16 hw), (wd_19 hw)⟩)
  obtain ⟨cl__VALUES, Arr__VALUES⟩ := Arr.start v__VALUES q0
  have L__VALUES := own_len 3 (own_eqI q2) v__VALUES Arr__VALUES.1 (by decide)
  have A__VALUES : Ar s s.heap a__VALUES (.object "com/example/hustings/hustings/model/Party") cl__VALUES.cls [(.ref a_RED), (.ref a_BLUE), (.ref a_YELLOW)] := ⟨cl__VALUES, Arr__VALUES, rfl, own_list3 L__VALUES (own_elem 0 (own_eqR q4 v_RED) v__VALUES Arr__VALUES.1 (by decide)) (own_elem 1 (own_eqR q6 v_BLUE) v__VALUES Arr__VALUES.1 (by decide)) (own_elem 2 (own_eqR q8 v_YELLOW) v__VALUES Arr__VALUES.1 (by decide))⟩
  have EnVAL := Exa.start v__VALUES q1
  obtain ⟨n, o, h1, h2, h3, _, L, rfl, ⟨N, -, rfl⟩, hq⟩ := law_met l s _ hw i0 i1 i2 i3 i4 EnRED EnBLUE EnYELLOW S__VALUES A__VALUES EnVAL p e ha hc hk s m _ below hf ((Spec.applies_iff_loose hf).mp happ).1 ⟨rfl, State.Warmed39.refl s, rfl⟩ trivial
  exact ⟨n, _, h1, h2, h3, hpost _ _ _ _ _ _ ⟨Cond.after_iff.mpr rfl, Cond.after_iff.mpr (eq_i res_at (Term.int_eval (1)) rfl), trivial⟩ ⟨hq.1, hq.2.1, hq.2.2.1, (hq.2.2.2.sift fun y hy => Or.inr (N y hy)).mono (by decide) (by decide)⟩⟩
theorem main_1_1 : Claimed_1_1 := comes_1 fun _ _ _ _ _ _ h hF => ⟨h.1, hF⟩
theorem main_1_2 : Claimed_1_2 := comes_1 fun _ _ _ _ _ _ h hF => ⟨h.2.1, hF⟩
end Jvm.Pilot.@@N@@
namespace Jvm.Pilot.@@N@@
open Jvm Jvm.ClassFile Sem Op Lib Jvm.Free Jvm.Stand Jvm.Pilot.@@N@@.Jvm.D
/-! MADE BY PROGRAM (witnessworld.py) out of the Statement's table words and the real class files: 24 classes; the members and pool entries that the words name. The judged class is class 1, her method 4. -/
namespace start1
open Jvm.ClassFile
def u (s : String) : CpInfo := .utf8 (stringToUtf16 s)
/-- a pool by its gaps: so many unusable entries, then the entry; so many at the end -/
def gap : Nat → List CpInfo → List CpInfo
  | 0, r => r
  | n + 1, r => .unusable :: gap n r
def poolList (es : List (Nat × CpInfo)) (last : Nat) : List CpInfo := es.foldr (fun e r => gap e.1 (e.2 :: r)) (gap last [])
def pool (es : List (Nat × CpInfo)) (last : Nat) : Array CpInfo := ⟨poolList es last⟩
def fileOf (pool : Array CpInfo) (this : Nat) (attrs : Array Attribute := #[]) (ms : Array MethodInfo := #[]) (fl : Nat := 33) (sup : Nat := 0) (ifs : Array Nat := #[]) (fds : Array FieldInfo := #[]) : ClassFile where
  minorVersion := 0
  majorVersion := 65
  constantPool := pool
  accessFlags := fl
  thisClass := this
  superClass := sup
  interfaces := ifs
  fields := fds
  methods := ms
  attributes := attrs
def plain (name : String) (sup : Option ClassId) : Class where
  name := name
  kind := .ordinary
  loader := none
  accessFlags := 33
  super := sup
  interfaces := #[]
  cf := none
  fields := #[]
  methods := #[]
  instanceTypes := #[]
  staticTypes := #[]
  resolved := #[]
  callSites := []
  init := .initialized
  statics := none
  mirror := none

def pool0 : Array CpInfo := pool [(5, u "<init>"), (0, u "()V"), (1, .class_ 10), (1, u "java/lang/Object"), (85, u "clone"), (0, u "()Ljava/lang/Object;")] 26

def k0c0 : Code := { maxStack := 0, maxLocals := 1, code := object_method_1_code, exceptionTable := #[], attributes := #[] }
def k0m0 : Method := { name := "<init>", desc := "()V", sig := { parameters := [], returnType := none }, accessFlags := 1, code := some k0c0 }
def k0m1 : Method := { name := "clone", desc := "()Ljava/lang/Object;", sig := { parameters := [], returnType := some (.object "java/lang/Object") }, accessFlags := 260, code := none }
/-- java/lang/Object -/
def k0 : Class := { plain "java/lang/Object" none with
  accessFlags := 33
  interfaces := #[]
  cf := some (fileOf pool0 8 #[] #[{ accessFlags := 1, nameIndex := 5, descriptorIndex := 6, attributes := #[] }, { accessFlags := 260, nameIndex := 96, descriptorIndex := 97, attributes := #[] }] 33 0 #[] #[])
  fields := #[]
  methods := #[k0m0, k0m1]
  instanceTypes := #[]
  staticTypes := #[]
  resolved := Array.replicate 124 none
  statics := none }

def pool1 : Array CpInfo := pool [(2, .class_ 4), (0, .nameAndType 5 6), (0, u "java/lang/Object"), (0, u "<init>"), (0, u "()V"), (0, .integer 2147483647), (0, .class_ 9), (0, u "com/example/hustings/hustings/model/Outcome$Won"), (0, .fieldref 11 12), (0, .class_ 13), (0, .nameAndType 14 15), (0, u "com/example/hustings/hustings/model/Party"), (0, u "RED"), (0, u "Lcom/example/hustings/hustings/model/Party;"), (0, .methodref 8 17), (0, .nameAndType 5 18), (0, u "(Lcom/example/hustings/hustings/model/Party;I)V"), (0, .methodref 20 21), (0, .class_ 22), (0, .nameAndType 23 24), (0, u "com/example/hustings/hustings/model/Wins"), (0, u "add"), (0, u "(Lcom/example/hustings/hustings/model/Outcome;)V"), (0, .fieldref 11 26), (0, .nameAndType 27 15), (0, u "BLUE"), (0, .fieldref 11 29), (0, .nameAndType 30 15), (0, u "YELLOW"), (0, .class_ 32), (0, u "com/example/hustings/hustings/model/Outcome$Tie"), (0, .methodref 31 3), (0, .methodref 35 36), (0, .class_ 37), (0, .nameAndType 38 39), (0, u "com/example/hustings/hustings/model/WinsAddAllPinLaw"), (0, u "code"), (0, u "(I)I"), (0, .methodref 20 3), (0, .methodref 35 42), (0, .nameAndType 43 44), (0, u "put"), (0, u "(Lcom/example/hustings/hustings/model/Wins;I)V"), (0, .methodref 20 46), (0, .nameAndType 47 48), (0, u "addAll"), (0, u "(Lcom/example/hustings/hustings/model/Wins;)V"), (0, .long 2), (1, .methodref 35 52), (0, .nameAndType 53 54), (0, u "cnt"), (0, u "(III)J"), (0, .methodref 20 56), (0, .nameAndType 57 58), (0, u "of"), (0, u "(Lcom/example/hustings/hustings/model/Party;)J"), (0, .methodref 20 60), (0, .nameAndType 61 62), (0, u "ties"), (0, u "()J"), (0, .methodref 20 64), (0, .nameAndType 65 62), (0, u "games"), (3, u "law"), (0, u "(IIIII)Z")] 7

def k1m0 : Method := { name := "<init>", desc := "()V", sig := { parameters := [], returnType := none }, accessFlags := 1, code := none }
def k1c1 : Code := { maxStack := 2, maxLocals := 1, code := method_2_code, exceptionTable := #[], attributes := #[] }
def k1m1 : Method := { name := "code", desc := "(I)I", sig := { parameters := [.int], returnType := some .int }, accessFlags := 10, code := some k1c1 }
def k1c2 : Code := { maxStack := 5, maxLocals := 2, code := method_3_code, exceptionTable := #[], attributes := #[] }
def k1m2 : Method := { name := "put", desc := "(Lcom/example/hustings/hustings/model/Wins;I)V", sig := { parameters := [(.object "com/example/hustings/hustings/model/Wins"), .int], returnType := none }, accessFlags := 10, code := some k1c2 }
def k1c3 : Code := { maxStack := 4, maxLocals := 5, code := method_4_code, exceptionTable := #[], attributes := #[] }
def k1m3 : Method := { name := "cnt", desc := "(III)J", sig := { parameters := [.int, .int, .int], returnType := some .long }, accessFlags := 10, code := some k1c3 }
def k1c4 : Code := { maxStack := 5, maxLocals := 23, code := code, exceptionTable := #[], attributes := #[] }
def k1m4 : Method := { name := "law", desc := "(IIIII)Z", sig := { parameters := [.int, .int, .int, .int, .int], returnType := some .boolean }, accessFlags := 9, code := some k1c4 }
/-- com/example/hustings/hustings/model/WinsAddAllPinLaw -/
def k1 : Class := { plain "com/example/hustings/hustings/model/WinsAddAllPinLaw" (some 0) with
  accessFlags := 49
  interfaces := #[]
  cf := some (fileOf pool1 35 #[] #[{ accessFlags := 1, nameIndex := 5, descriptorIndex := 6, attributes := #[] }, { accessFlags := 10, nameIndex := 38, descriptorIndex := 39, attributes := #[] }, { accessFlags := 10, nameIndex := 43, descriptorIndex := 44, attributes := #[] }, { accessFlags := 10, nameIndex := 53, descriptorIndex := 54, attributes := #[] }, { accessFlags := 9, nameIndex := 69, descriptorIndex := 70, attributes := #[] }] 49 2 #[] #[])
  fields := #[]
  methods := #[k1m0, k1m1, k1m2, k1m3, k1m4]
  instanceTypes := #[]
  staticTypes := #[]
  resolved := Array.replicate 78 none
  statics := none }

def pool2 : Array CpInfo := pool [(1, .methodref 2 3), (0, .class_ 4), (0, .nameAndType 5 6), (0, u "java/lang/Object"), (0, u "<init>"), (0, u "()V"), (0, .methodref 8 9), (0, .class_ 10), (0, .nameAndType 11 12), (0, u "com/example/hustings/hustings/model/Party"), (0, u "values"), (0, u "()[Lcom/example/hustings/hustings/model/Party;"), (0, .fieldref 14 15), (0, .class_ 16), (0, .nameAndType 17 18), (0, u "com/example/hustings/hustings/model/Wins"), (0, u "won"), (0, u "[J"), (0, .class_ 20), (0, u "com/example/hustings/hustings/model/Outcome$Won"), (0, .methodref 19 22), (0, .nameAndType 23 24), (0, u "winner"), (0, u "()Lcom/example/hustings/hustings/model/Party;"), (0, .methodref 8 26), (0, .nameAndType 27 28), (0, u "ordinal"), (0, u "()I"), (0, .fieldref 14 30), (0, .nameAndType 31 32), (0, u "ties"), (0, u "J"), (2, u "add"), (0, u "(Lcom/example/hustings/hustings/model/Outcome;)V"), (1, u "addAll"), (0, u "(Lcom/example/hustings/hustings/model/Wins;)V"), (0, u "games"), (0, u "()J"), (1, u "of"), (0, u "(Lcom/example/hustings/hustings/model/Party;)J")] 6

def k2c0 : Code := { maxStack := 2, maxLocals := 1, code := prog_32_method_1_code, exceptionTable := #[], attributes := #[] }
def k2m0 : Method := { name := "<init>", desc := "()V", sig := { parameters := [], returnType := none }, accessFlags := 1, code := some k2c0 }
def k2c1 : Code := { maxStack := 6, maxLocals := 3, code := prog_32_method_2_code, exceptionTable := #[], attributes := #[] }
def k2m1 : Method := { name := "add", desc := "(Lcom/example/hustings/hustings/model/Outcome;)V", sig := { parameters := [(.object "com/example/hustings/hustings/model/Outcome")], returnType := none }, accessFlags := 1, code := some k2c1 }
def k2c2 : Code := { maxStack := 6, maxLocals := 3, code := prog_32_method_3_code, exceptionTable := #[], attributes := #[] }
def k2m2 : Method := { name := "addAll", desc := "(Lcom/example/hustings/hustings/model/Wins;)V", sig := { parameters := [(.object "com/example/hustings/hustings/model/Wins")], returnType := none }, accessFlags := 1, code := some k2c2 }
def k2c3 : Code := { maxStack := 4, maxLocals := 8, code := prog_32_method_4_code, exceptionTable := #[], attributes := #[] }
def k2m3 : Method := { name := "games", desc := "()J", sig := { parameters := [], returnType := some .long }, accessFlags := 1, code := some k2c3 }
def k2c4 : Code := { maxStack := 2, maxLocals := 2, code := prog_32_method_5_code, exceptionTable := #[], attributes := #[] }
def k2m4 : Method := { name := "of", desc := "(Lcom/example/hustings/hustings/model/Party;)J", sig := { parameters := [(.object "com/example/hustings/hustings/model/Party")], returnType := some .long }, accessFlags := 1, code := some k2c4 }
def k2c5 : Code := { maxStack := 2, maxLocals := 1, code := prog_32_method_6_code, exceptionTable := #[], attributes := #[] }
def k2m5 : Method := { name := "ties", desc := "()J", sig := { parameters := [], returnType := some .long }, accessFlags := 1, code := some k2c5 }
/-- com/example/hustings/hustings/model/Wins -/
def k2 : Class := { plain "com/example/hustings/hustings/model/Wins" (some 0) with
  accessFlags := 49
  interfaces := #[]
  cf := some (fileOf pool2 14 #[] #[{ accessFlags := 1, nameIndex := 5, descriptorIndex := 6, attributes := #[] }, { accessFlags := 1, nameIndex := 35, descriptorIndex := 36, attributes := #[] }, { accessFlags := 1, nameIndex := 38, descriptorIndex := 39, attributes := #[] }, { accessFlags := 1, nameIndex := 40, descriptorIndex := 41, attributes := #[] }, { accessFlags := 1, nameIndex := 43, descriptorIndex := 44, attributes := #[] }, { accessFlags := 1, nameIndex := 31, descriptorIndex := 41, attributes := #[] }] 49 2 #[] #[{ accessFlags := 18, nameIndex := 17, descriptorIndex := 18, attributes := #[] }, { accessFlags := 2, nameIndex := 31, descriptorIndex := 32, attributes := #[] }])
  fields := #[{ name := "won", type := (.array .long), accessFlags := 18, slot := 0, constantValue := 0 }, { name := "ties", type := .long, accessFlags := 2, slot := 1, constantValue := 0 }]
  methods := #[k2m0, k2m1, k2m2, k2m3, k2m4, k2m5]
  instanceTypes := #[(.array .long), .long]
  staticTypes := #[]
  resolved := Array.replicate 51 none
  statics := none }

def pool3 : Array CpInfo := pool [(1, .class_ 2), (0, u "java/lang/constant/Constable"), (0, .class_ 4), (0, u "java/lang/Object")] 6

/-- java/lang/constant/Constable -/
def k3 : Class := { plain "java/lang/constant/Constable" (some 0) with
  accessFlags := 1537
  interfaces := #[]
  cf := some (fileOf pool3 1 #[] #[] 1537 3 #[] #[])
  fields := #[]
  methods := #[]
  instanceTypes := #[]
  staticTypes := #[]
  resolved := Array.replicate 11 none
  statics := none }

def pool4 : Array CpInfo := pool [(1, .class_ 2), (0, u "java/lang/Comparable"), (0, .class_ 4), (0, u "java/lang/Object")] 7

/-- java/lang/Comparable -/
def k4 : Class := { plain "java/lang/Comparable" (some 0) with
  accessFlags := 1537
  interfaces := #[]
  cf := some (fileOf pool4 1 #[] #[] 1537 3 #[] #[])
  fields := #[]
  methods := #[]
  instanceTypes := #[]
  staticTypes := #[]
  resolved := Array.replicate 12 none
  statics := none }

def pool5 : Array CpInfo := pool [(1, .class_ 2), (0, u "java/io/Serializable"), (0, .class_ 4), (0, u "java/lang/Object")] 2

/-- java/io/Serializable -/
def k5 : Class := { plain "java/io/Serializable" (some 0) with
  accessFlags := 1537
  interfaces := #[]
  cf := some (fileOf pool5 1 #[] #[] 1537 3 #[] #[])
  fields := #[]
  methods := #[]
  instanceTypes := #[]
  staticTypes := #[]
  resolved := Array.replicate 7 none
  statics := none }

def pool6 : Array CpInfo := pool [(2, .class_ 4), (1, u "java/lang/Enum"), (0, u "name"), (0, u "Ljava/lang/String;"), (0, .fieldref 2 8), (0, .nameAndType 9 10), (0, u "ordinal"), (0, u "I"), (1, .class_ 14), (1, u "java/lang/Object"), (4, u "hash"), (86, .class_ 108), (1, u "java/lang/Enum$EnumDesc"), (2, .class_ 112), (0, u "java/lang/constant/Constable"), (0, .class_ 114), (0, u "java/lang/Comparable"), (0, .class_ 116), (0, u "java/io/Serializable"), (9, u "()I")] 77

def k6c0 : Code := { maxStack := 1, maxLocals := 1, code := jdk_37_method_2_code, exceptionTable := #[], attributes := #[] }
def k6m0 : Method := { name := "ordinal", desc := "()I", sig := { parameters := [], returnType := some .int }, accessFlags := 17, code := some k6c0 }
/-- java/lang/Enum -/
def k6 : Class := { plain "java/lang/Enum" (some 0) with
  accessFlags := 1057
  interfaces := #[3, 4, 5]
  cf := some (fileOf pool6 2 #[.nestMembers #[106]] #[{ accessFlags := 17, nameIndex := 9, descriptorIndex := 126, attributes := #[] }] 1057 12 #[111, 113, 115] #[{ accessFlags := 18, nameIndex := 5, descriptorIndex := 6, attributes := #[] }, { accessFlags := 18, nameIndex := 9, descriptorIndex := 10, attributes := #[] }, { accessFlags := 2, nameIndex := 19, descriptorIndex := 10, attributes := #[] }])
  fields := #[{ name := "name", type := (.object "java/lang/String"), accessFlags := 18, slot := 0, constantValue := 0 }, { name := "ordinal", type := .int, accessFlags := 18, slot := 1, constantValue := 0 }, { name := "hash", type := .int, accessFlags := 2, slot := 2, constantValue := 0 }]
  methods := #[k6m0]
  instanceTypes := #[(.object "java/lang/String"), .int, .int]
  staticTypes := #[]
  resolved := Array.replicate 204 none
  statics := none }

def pool7 : Array CpInfo := pool [(1, .class_ 2), (0, u "com/example/hustings/hustings/model/Party"), (2, u "RED"), (0, u "Lcom/example/hustings/hustings/model/Party;"), (2, u "BLUE"), (2, u "YELLOW"), (0, .fieldref 1 14), (0, .nameAndType 15 16), (0, u "$VALUES"), (0, u "[Lcom/example/hustings/hustings/model/Party;"), (0, .methodref 18 19), (0, .class_ 16), (0, .nameAndType 20 21), (0, u "clone"), (0, u "()Ljava/lang/Object;"), (1, .class_ 25), (1, u "java/lang/Enum"), (24, u "id"), (0, u "Ljava/lang/String;"), (2, u "values"), (0, u "()[Lcom/example/hustings/hustings/model/Party;")] 81

def k7c0 : Code := { maxStack := 1, maxLocals := 0, code := prog_21_method_1_code, exceptionTable := #[], attributes := #[] }
def k7m0 : Method := { name := "values", desc := "()[Lcom/example/hustings/hustings/model/Party;", sig := { parameters := [], returnType := some (.array (.object "com/example/hustings/hustings/model/Party")) }, accessFlags := 9, code := some k7c0 }
/-- com/example/hustings/hustings/model/Party -/
def k7 : Class := { plain "com/example/hustings/hustings/model/Party" (some 6) with
  accessFlags := 16433
  interfaces := #[]
  cf := some (fileOf pool7 1 #[] #[{ accessFlags := 9, nameIndex := 54, descriptorIndex := 55, attributes := #[] }] 16433 23 #[] #[{ accessFlags := 16409, nameIndex := 5, descriptorIndex := 6, attributes := #[] }, { accessFlags := 16409, nameIndex := 9, descriptorIndex := 6, attributes := #[] }, { accessFlags := 16409, nameIndex := 12, descriptorIndex := 6, attributes := #[] }, { accessFlags := 18, nameIndex := 50, descriptorIndex := 51, attributes := #[] }, { accessFlags := 4122, nameIndex := 15, descriptorIndex := 16, attributes := #[] }])
  fields := #[{ name := "RED", type := (.object "com/example/hustings/hustings/model/Party"), accessFlags := 16409, slot := 0, constantValue := 0 }, { name := "BLUE", type := (.object "com/example/hustings/hustings/model/Party"), accessFlags := 16409, slot := 1, constantValue := 0 }, { name := "YELLOW", type := (.object "com/example/hustings/hustings/model/Party"), accessFlags := 16409, slot := 2, constantValue := 0 }, { name := "id", type := (.object "java/lang/String"), accessFlags := 18, slot := 3, constantValue := 0 }, { name := "$VALUES", type := (.array (.object "com/example/hustings/hustings/model/Party")), accessFlags := 4122, slot := 3, constantValue := 0 }]
  methods := #[k7m0]
  instanceTypes := #[(.object "java/lang/String"), .int, .int, (.object "java/lang/String")]
  staticTypes := #[(.object "com/example/hustings/hustings/model/Party"), (.object "com/example/hustings/hustings/model/Party"), (.object "com/example/hustings/hustings/model/Party"), (.array (.object "com/example/hustings/hustings/model/Party"))]
  resolved := Array.replicate 137 none
  statics := some 0 }

def pool8 : Array CpInfo := pool [(1, .class_ 2), (0, u "java/lang/Cloneable"), (0, .class_ 4), (0, u "java/lang/Object")] 2

/-- java/lang/Cloneable -/
def k8 : Class := { plain "java/lang/Cloneable" (some 0) with
  accessFlags := 1537
  interfaces := #[]
  cf := some (fileOf pool8 1 #[] #[] 1537 3 #[] #[])
  fields := #[]
  methods := #[]
  instanceTypes := #[]
  staticTypes := #[]
  resolved := Array.replicate 7 none
  statics := none }

def pool9 : Array CpInfo := pool [(1, .methodref 2 3), (0, .class_ 4), (0, .nameAndType 5 6), (0, u "java/lang/Object"), (0, u "<init>"), (0, u "()V"), (0, .class_ 8), (0, u "java/lang/Record")] 13

def k9c0 : Code := { maxStack := 1, maxLocals := 1, code := jdk_30_method_1_code, exceptionTable := #[], attributes := #[] }
def k9m0 : Method := { name := "<init>", desc := "()V", sig := { parameters := [], returnType := none }, accessFlags := 4, code := some k9c0 }
/-- java/lang/Record -/
def k9 : Class := { plain "java/lang/Record" (some 0) with
  accessFlags := 1057
  interfaces := #[]
  cf := some (fileOf pool9 7 #[] #[{ accessFlags := 4, nameIndex := 5, descriptorIndex := 6, attributes := #[] }] 1057 2 #[] #[])
  fields := #[]
  methods := #[k9m0]
  instanceTypes := #[]
  staticTypes := #[]
  resolved := Array.replicate 22 none
  statics := none }

def pool10 : Array CpInfo := pool [(1, .class_ 2), (0, u "com/example/hustings/hustings/model/Outcome"), (0, .class_ 4), (0, u "java/lang/Object"), (6, .class_ 12), (0, u "com/example/hustings/hustings/model/Outcome$Tie"), (0, .class_ 14), (0, u "com/example/hustings/hustings/model/Outcome$Won")] 4

/-- com/example/hustings/hustings/model/Outcome -/
def k10 : Class := { plain "com/example/hustings/hustings/model/Outcome" (some 0) with
  accessFlags := 1537
  interfaces := #[]
  cf := some (fileOf pool10 1 #[.nestMembers #[11, 13]] #[] 1537 3 #[] #[])
  fields := #[]
  methods := #[]
  instanceTypes := #[]
  staticTypes := #[]
  resolved := Array.replicate 19 none
  statics := none }

def pool11 : Array CpInfo := pool [(1, .methodref 2 3), (0, .class_ 4), (0, .nameAndType 5 6), (0, u "java/lang/Record"), (0, u "<init>"), (0, u "()V"), (0, .string 8), (0, u "winner"), (0, .methodref 10 11), (0, .class_ 12), (0, .nameAndType 13 14), (0, u "java/util/Objects"), (0, u "requireNonNull"), (0, u "(Ljava/lang/Object;Ljava/lang/String;)Ljava/lang/Object;"), (0, .fieldref 16 17), (0, .class_ 18), (0, .nameAndType 8 19), (0, u "com/example/hustings/hustings/model/Outcome$Won"), (0, u "Lcom/example/hustings/hustings/model/Party;"), (0, .fieldref 16 21), (0, .nameAndType 22 23), (0, u "decidedBy"), (0, u "I"), (22, .class_ 47), (0, u "com/example/hustings/hustings/model/Outcome"), (0, u "(Lcom/example/hustings/hustings/model/Party;I)V"), (7, u "()Lcom/example/hustings/hustings/model/Party;")] 31

def k11c0 : Code := { maxStack := 2, maxLocals := 3, code := prog_20_method_1_code, exceptionTable := #[], attributes := #[] }
def k11m0 : Method := { name := "<init>", desc := "(Lcom/example/hustings/hustings/model/Party;I)V", sig := { parameters := [(.object "com/example/hustings/hustings/model/Party"), .int], returnType := none }, accessFlags := 1, code := some k11c0 }
def k11c1 : Code := { maxStack := 1, maxLocals := 1, code := prog_20_method_7_code, exceptionTable := #[], attributes := #[] }
def k11m1 : Method := { name := "winner", desc := "()Lcom/example/hustings/hustings/model/Party;", sig := { parameters := [], returnType := some (.object "com/example/hustings/hustings/model/Party") }, accessFlags := 1, code := some k11c1 }
/-- com/example/hustings/hustings/model/Outcome$Won -/
def k11 : Class := { plain "com/example/hustings/hustings/model/Outcome$Won" (some 9) with
  accessFlags := 49
  interfaces := #[10]
  cf := some (fileOf pool11 16 #[.nestHost 46] #[{ accessFlags := 1, nameIndex := 5, descriptorIndex := 48, attributes := #[] }, { accessFlags := 1, nameIndex := 8, descriptorIndex := 56, attributes := #[] }] 49 2 #[46] #[{ accessFlags := 18, nameIndex := 8, descriptorIndex := 19, attributes := #[] }, { accessFlags := 18, nameIndex := 22, descriptorIndex := 23, attributes := #[] }])
  fields := #[{ name := "winner", type := (.object "com/example/hustings/hustings/model/Party"), accessFlags := 18, slot := 0, constantValue := 0 }, { name := "decidedBy", type := .int, accessFlags := 18, slot := 1, constantValue := 0 }]
  methods := #[k11m0, k11m1]
  instanceTypes := #[(.object "com/example/hustings/hustings/model/Party"), .int]
  staticTypes := #[]
  resolved := Array.replicate 88 none
  statics := none }

def pool12 : Array CpInfo := pool [(2, .class_ 4), (1, u "java/lang/CharSequence"), (42, .class_ 48), (0, u "java/lang/CharSequence$1CodePointIterator"), (10, .class_ 60), (0, u "java/lang/CharSequence$1CharIterator"), (5, .class_ 67), (0, u "java/lang/Object")] 63

/-- java/lang/CharSequence -/
def k12 : Class := { plain "java/lang/CharSequence" (some 0) with
  accessFlags := 1537
  interfaces := #[]
  cf := some (fileOf pool12 2 #[.nestMembers #[47, 59]] #[] 1537 66 #[] #[])
  fields := #[]
  methods := #[]
  instanceTypes := #[]
  staticTypes := #[]
  resolved := Array.replicate 131 none
  statics := none }

def pool13 : Array CpInfo := pool [(1, .class_ 2), (0, u "java/lang/constant/ConstantDesc"), (0, .class_ 4), (0, u "java/lang/Object")] 32

/-- java/lang/constant/ConstantDesc -/
def k13 : Class := { plain "java/lang/constant/ConstantDesc" (some 0) with
  accessFlags := 1537
  interfaces := #[]
  cf := some (fileOf pool13 1 #[] #[] 1537 3 #[] #[])
  fields := #[]
  methods := #[]
  instanceTypes := #[]
  staticTypes := #[]
  resolved := Array.replicate 37 none
  statics := none }

def pool14 : Array CpInfo := pool [(2, .class_ 4), (1, u "java/lang/Object"), (0, u "<init>"), (0, u "()V"), (3, .class_ 12), (1, u "java/lang/String"), (0, u "value"), (0, u "[B"), (2, u "coder"), (0, u "B"), (2, u "hash"), (0, u "I"), (2, u "hashIsZero"), (0, u "Z"), (13, u "COMPACT_STRINGS"), (534, .class_ 576), (0, u "java/lang/CharSequence"), (22, u "CASE_INSENSITIVE_ORDER"), (0, u "Ljava/util/Comparator;"), (500, u "serialPersistentFields"), (0, u "[Ljava/io/ObjectStreamField;"), (0, .class_ 1104), (0, u "java/lang/String$CaseInsensitiveComparator"), (1, .class_ 1107), (0, u "java/io/Serializable"), (0, .class_ 1109), (0, u "java/lang/Comparable"), (0, .class_ 1111), (0, u "java/lang/constant/Constable"), (0, .class_ 1113), (0, u "java/lang/constant/ConstantDesc"), (2, u "serialVersionUID"), (0, u "J"), (3, u "REPL"), (0, u "C"), (2, u "LATIN1"), (1, u "UTF16")] 323

def k14m0 : Method := { name := "<init>", desc := "()V", sig := { parameters := [], returnType := none }, accessFlags := 1, code := none }
/-- java/lang/String -/
def k14 : Class := { plain "java/lang/String" (some 0) with
  accessFlags := 49
  interfaces := #[5, 4, 12, 3, 13]
  cf := some (fileOf pool14 10 #[.nestMembers #[1103]] #[{ accessFlags := 1, nameIndex := 5, descriptorIndex := 6, attributes := #[] }] 49 2 #[1106, 1108, 575, 1110, 1112] #[{ accessFlags := 18, nameIndex := 13, descriptorIndex := 14, attributes := #[] }, { accessFlags := 18, nameIndex := 17, descriptorIndex := 18, attributes := #[] }, { accessFlags := 2, nameIndex := 21, descriptorIndex := 22, attributes := #[] }, { accessFlags := 2, nameIndex := 25, descriptorIndex := 26, attributes := #[] }, { accessFlags := 26, nameIndex := 1116, descriptorIndex := 1117, attributes := #[] }, { accessFlags := 24, nameIndex := 40, descriptorIndex := 26, attributes := #[] }, { accessFlags := 26, nameIndex := 1101, descriptorIndex := 1102, attributes := #[] }, { accessFlags := 26, nameIndex := 1121, descriptorIndex := 1122, attributes := #[] }, { accessFlags := 25, nameIndex := 599, descriptorIndex := 600, attributes := #[] }, { accessFlags := 24, nameIndex := 1125, descriptorIndex := 18, attributes := #[] }, { accessFlags := 24, nameIndex := 1127, descriptorIndex := 18, attributes := #[] }])
  fields := #[{ name := "value", type := (.array .byte), accessFlags := 18, slot := 0, constantValue := 0 }, { name := "coder", type := .byte, accessFlags := 18, slot := 1, constantValue := 0 }, { name := "hash", type := .int, accessFlags := 2, slot := 2, constantValue := 0 }, { name := "hashIsZero", type := .boolean, accessFlags := 2, slot := 3, constantValue := 0 }, { name := "serialVersionUID", type := .long, accessFlags := 26, slot := 0, constantValue := 0 }, { name := "COMPACT_STRINGS", type := .boolean, accessFlags := 24, slot := 1, constantValue := 0 }, { name := "serialPersistentFields", type := (.array (.object "java/io/ObjectStreamField")), accessFlags := 26, slot := 2, constantValue := 0 }, { name := "REPL", type := .char, accessFlags := 26, slot := 3, constantValue := 0 }, { name := "CASE_INSENSITIVE_ORDER", type := (.object "java/util/Comparator"), accessFlags := 25, slot := 4, constantValue := 0 }, { name := "LATIN1", type := .byte, accessFlags := 24, slot := 5, constantValue := 0 }, { name := "UTF16", type := .byte, accessFlags := 24, slot := 6, constantValue := 0 }]
  methods := #[k14m0]
  instanceTypes := #[(.array .byte), .byte, .int, .boolean]
  staticTypes := #[.long, .boolean, (.array (.object "java/io/ObjectStreamField")), .char, (.object "java/util/Comparator"), .byte, .byte]
  resolved := Array.replicate 1451 none
  statics := none }

def pool15 : Array CpInfo := pool [(2, .class_ 4), (1, u "java/lang/Object"), (0, u "<init>"), (0, u "()V"), (35, .class_ 44), (1, u "java/util/Objects"), (0, u "requireNonNull"), (48, u "(Ljava/lang/Object;Ljava/lang/String;)Ljava/lang/Object;")] 89

def k15m0 : Method := { name := "<init>", desc := "()V", sig := { parameters := [], returnType := none }, accessFlags := 2, code := none }
def k15c1 : Code := { maxStack := 3, maxLocals := 2, code := jdk_31_method_11_code, exceptionTable := #[], attributes := #[] }
def k15m1 : Method := { name := "requireNonNull", desc := "(Ljava/lang/Object;Ljava/lang/String;)Ljava/lang/Object;", sig := { parameters := [(.object "java/lang/Object"), (.object "java/lang/String")], returnType := some (.object "java/lang/Object") }, accessFlags := 9, code := some k15c1 }
/-- java/util/Objects -/
def k15 : Class := { plain "java/util/Objects" (some 0) with
  accessFlags := 49
  interfaces := #[]
  cf := some (fileOf pool15 42 #[] #[{ accessFlags := 2, nameIndex := 5, descriptorIndex := 6, attributes := #[] }, { accessFlags := 9, nameIndex := 45, descriptorIndex := 94, attributes := #[] }] 49 2 #[] #[])
  fields := #[]
  methods := #[k15m0, k15m1]
  instanceTypes := #[]
  staticTypes := #[]
  resolved := Array.replicate 184 none
  statics := none }

def pool16 : Array CpInfo := pool [(1, .methodref 2 3), (0, .class_ 4), (0, .nameAndType 5 6), (0, u "java/lang/Record"), (0, u "<init>"), (0, u "()V"), (16, .class_ 24), (0, u "com/example/hustings/hustings/model/Outcome$Tie"), (0, .class_ 26), (0, u "com/example/hustings/hustings/model/Outcome")] 28

def k16c0 : Code := { maxStack := 1, maxLocals := 1, code := prog_19_method_1_code, exceptionTable := #[], attributes := #[] }
def k16m0 : Method := { name := "<init>", desc := "()V", sig := { parameters := [], returnType := none }, accessFlags := 1, code := some k16c0 }
/-- com/example/hustings/hustings/model/Outcome$Tie -/
def k16 : Class := { plain "com/example/hustings/hustings/model/Outcome$Tie" (some 9) with
  accessFlags := 49
  interfaces := #[10]
  cf := some (fileOf pool16 23 #[.nestHost 25] #[{ accessFlags := 1, nameIndex := 5, descriptorIndex := 6, attributes := #[] }] 49 2 #[25] #[])
  fields := #[]
  methods := #[k16m0]
  instanceTypes := #[]
  staticTypes := #[]
  resolved := Array.replicate 55 none
  statics := none }

/-- the primitive byte -/
def k17 : Class := { plain "byte" none with kind := .primitive 'B', accessFlags := 0x411 }
/-- [B -/
def k18 : Class := { plain "[B" (some 0) with kind := .array 17 .byte, interfaces := #[8, 5], accessFlags := 1041 }

/-- the primitive int -/
def k19 : Class := { plain "int" none with kind := .primitive 'I', accessFlags := 0x411 }
/-- [I -/
def k20 : Class := { plain "[I" (some 0) with kind := .array 19 .int, interfaces := #[8, 5], accessFlags := 1041 }

/-- the primitive long -/
def k21 : Class := { plain "long" none with kind := .primitive 'J', accessFlags := 0x411 }
/-- [J -/
def k22 : Class := { plain "[J" (some 0) with kind := .array 21 .long, interfaces := #[8, 5], accessFlags := 1041 }

/-- [Lcom/example/hustings/hustings/model/Party; -/
def k23 : Class := { plain "[Lcom/example/hustings/hustings/model/Party;" (some 0) with kind := .array 7 (.object "com/example/hustings/hustings/model/Party"), interfaces := #[8, 5], accessFlags := 1041 }

def heap : Heap := #[{ cls := 7, slots := #[.ref 2, .ref 3, .ref 4, .ref 1], vm := .statics 7 },
  { cls := 23, slots := #[.ref 2, .ref 3, .ref 4], vm := .none },
  { cls := 7, slots := #[.null, .int 0, .int 0, .null], vm := .none },
  { cls := 7, slots := #[.null, .int 1, .int 0, .null], vm := .none },
  { cls := 7, slots := #[.null, .int 2, .int 0, .null], vm := .none }]
def classes : Array Class := #[k0, k1, k2, k3, k4, k5, k6, k7, k8, k9, k10, k11, k12, k13, k14, k15, k16, k17, k18, k19, k20, k21, k22, k23]
def interned : List (Array UInt16 × Addr) := []
def slotsUsed : Nat := 19
def theMethod : MethodId := ⟨1, 4⟩
def args0 : Array Value := #[.int 3, .int 4, .int 5, .int 6, .int 7]
def aboutOver (below : List Frame) : State where
  vm := { classes := classes, interned := interned.toArray }
  heap := heap
  slotsUsed := slotsUsed
  threads := #[{ frames := .invoking theMethod args0 :: below }]
def below0 : List Frame := [.native { method := ⟨0, 0⟩, args := #[] }]
def about1 : State := aboutOver below0
def p0 : Program := .bare "" "" ""
def e0 : Env := launch0.env 0 0 0
theorem w_frames : about1.frames = Frame.invoking theMethod args0 :: below0 := rfl
set_option maxRecDepth 65536 in
theorem w_args : argsFit about1.vm theMethod args0 = true := by decide +kernel
set_option maxRecDepth 65536 in
theorem w_heap : heapFits about1 = true := by decide +kernel
set_option maxRecDepth 65536 in
theorem w_runnable : about1.curStatus? = some .runnable := by decide +kernel
set_option maxRecDepth 65536 in
theorem w_alone : about1.alone = true := by decide +kernel
set_option maxRecDepth 65536 in
theorem w_named : about1.methodNamed? x = some theMethod := by decide +kernel
set_option maxRecDepth 65536 in
theorem w_hears : about1.hears theMethod below0 = true := by decide +kernel
set_option maxRecDepth 65536 in
theorem w_ripe : about1.ripe theMethod args0 below0 = true := by decide +kernel
theorem w_running : about1.status = .running := rfl
set_option maxRecDepth 65536 in
theorem w_room : about1.hasRoom e0.platform room_1 = true :=
  launch0.hasRoom_least _ room_1 (by decide +kernel) (by decide +kernel) (by decide +kernel) (by decide +kernel) (by decide +kernel) (by decide +kernel)
theorem allAtoms_all (ts : List Jvm.Cond) (a : Array Jvm.Value) (st : Jvm.State) : (allAtoms ts).before a st = ts.all (fun c => c.before a st) := by
  induction ts with
  | nil => rfl
  | cons c t ih =>
    show (Jvm.Cond.and c (allAtoms t)).before a st = _
    rw [Jvm.Cond.before_and, ih, List.all_cons]
def words1 : List Jvm.Cond := Jvm.Cond.code x code maxLocals ret :: tables_1
/-- a 'code' word, met by the world's own term for the bytes: nothing is compared byte by byte -/
theorem code_word {y : MethodName} {bytes : ByteArray} {mx : Nat} {rt : Option FieldType} {a : Array Value} {s : State} {m : MethodId} {meth : Method} {c : Code} (h1 : s.methodNamed? y = some m) (h2 : s.vm.method? m = some meth) (h3 : meth.code = some c) (h4 : c.code = bytes)
    (h5 : (c.maxLocals == mx && c.exceptionTable.isEmpty && decide (c.maxStack ≤ mostOperands) && decide (meth.sig.returnType = rt) && !meth.locks && decide (parseMethodDescriptor y.desc = some meth.sig)) = true) : (Jvm.Cond.code y bytes mx rt).before a s = true := by
  simp only [Bool.and_eq_true, beq_iff_eq, Bool.not_eq_true', decide_eq_true_eq] at h5
  obtain ⟨⟨⟨⟨⟨g1, g2⟩, g3⟩, g4⟩, g5⟩, g6⟩ := h5
  simp [Cond.before, Cond.holds, Cond.value, h1, h2, h3, h4, g1, g2, g3, g4, g5, g6]
def isCode : Jvm.Cond → Bool
  | .code _ _ _ _ => true
  | _ => false
theorem all_split {L : List Jvm.Cond} {P : Jvm.Cond → Bool} (h1 : L.all (fun c => isCode c || P c) = true) (h2 : ∀ c ∈ L.filter isCode, P c = true) : L.all P = true := by
  refine List.all_eq_true.mpr fun c hc => ?_
  have h := List.all_eq_true.mp h1 c hc
  rcases Bool.eq_false_or_eq_true (isCode c) with hi | hi
  · exact h2 c (List.mem_filter.mpr ⟨hc, hi⟩)
  · simpa [hi] using h
set_option maxRecDepth 65536 in
theorem w_c0 : (Jvm.Cond.code x code maxLocals ret).before args0 about1 = true := code_word (m := ⟨1, 4⟩) (meth := k1m4) (c := k1c4) (by decide +kernel) rfl rfl rfl (by decide +kernel)
set_option maxRecDepth 65536 in
theorem w_c1 : (Jvm.Cond.code ({ cls := "com/example/hustings/hustings/model/WinsAddAllPinLaw", name := "code", desc := "(I)I" } : Jvm.MethodName) method_2_code (1 : Nat) (Option.some Jvm.ClassFile.FieldType.int)).before args0 about1 = true := code_word (m := ⟨1, 1⟩) (meth := k1m1) (c := k1c1) (by decide +kernel) rfl rfl rfl (by decide +kernel)
set_option maxRecDepth 65536 in
theorem w_c2 : (Jvm.Cond.code ({ cls := "com/example/hustings/hustings/model/Wins", name := "<init>", desc := "()V" } : Jvm.MethodName) prog_32_method_1_code (1 : Nat) (Option.none : Option Jvm.ClassFile.FieldType)).before args0 about1 = true := code_word (m := ⟨2, 0⟩) (meth := k2m0) (c := k2c0) (by decide +kernel) rfl rfl rfl (by decide +kernel)
set_option maxRecDepth 65536 in
theorem w_c3 : (Jvm.Cond.code ({ cls := "java/lang/Object", name := "<init>", desc := "()V" } : Jvm.MethodName) object_method_1_code (1 : Nat) (Option.none : Option Jvm.ClassFile.FieldType)).before args0 about1 = true := code_word (m := ⟨0, 0⟩) (meth := k0m0) (c := k0c0) (by decide +kernel) rfl rfl rfl (by decide +kernel)
set_option maxRecDepth 65536 in
theorem w_c4 : (Jvm.Cond.code ({ cls := "com/example/hustings/hustings/model/Party", name := "values", desc := "()[Lcom/example/hustings/hustings/model/Party;" } : Jvm.MethodName) prog_21_method_1_code (0 : Nat) (Option.some (Jvm.ClassFile.FieldType.array (Jvm.ClassFile.FieldType.object "com/example/hustings/hustings/model/Party")))).before args0 about1 = true := code_word (m := ⟨7, 0⟩) (meth := k7m0) (c := k7c0) (by decide +kernel) rfl rfl rfl (by decide +kernel)
set_option maxRecDepth 65536 in
theorem w_c5 : (Jvm.Cond.code ({ cls := "com/example/hustings/hustings/model/WinsAddAllPinLaw", name := "put", desc := "(Lcom/example/hustings/hustings/model/Wins;I)V" } : Jvm.MethodName) method_3_code (2 : Nat) (Option.none : Option Jvm.ClassFile.FieldType)).before args0 about1 = true := code_word (m := ⟨1, 2⟩) (meth := k1m2) (c := k1c2) (by decide +kernel) rfl rfl rfl (by decide +kernel)
set_option maxRecDepth 65536 in
theorem w_c6 : (Jvm.Cond.code ({ cls := "com/example/hustings/hustings/model/Outcome$Won", name := "<init>", desc := "(Lcom/example/hustings/hustings/model/Party;I)V" } : Jvm.MethodName) prog_20_method_1_code (3 : Nat) (Option.none : Option Jvm.ClassFile.FieldType)).before args0 about1 = true := code_word (m := ⟨11, 0⟩) (meth := k11m0) (c := k11c0) (by decide +kernel) rfl rfl rfl (by decide +kernel)
set_option maxRecDepth 65536 in
theorem w_c7 : (Jvm.Cond.code ({ cls := "java/lang/Record", name := "<init>", desc := "()V" } : Jvm.MethodName) jdk_30_method_1_code (1 : Nat) (Option.none : Option Jvm.ClassFile.FieldType)).before args0 about1 = true := code_word (m := ⟨9, 0⟩) (meth := k9m0) (c := k9c0) (by decide +kernel) rfl rfl rfl (by decide +kernel)
set_option maxRecDepth 65536 in
theorem w_c8 : (Jvm.Cond.code ({ cls := "java/util/Objects", name := "requireNonNull", desc := "(Ljava/lang/Object;Ljava/lang/String;)Ljava/lang/Object;" } : Jvm.MethodName) jdk_31_method_11_code (2 : Nat) (Option.some (Jvm.ClassFile.FieldType.object "java/lang/Object"))).before args0 about1 = true := code_word (m := ⟨15, 1⟩) (meth := k15m1) (c := k15c1) (by decide +kernel) rfl rfl rfl (by decide +kernel)
set_option maxRecDepth 65536 in
theorem w_c9 : (Jvm.Cond.code ({ cls := "com/example/hustings/hustings/model/Wins", name := "add", desc := "(Lcom/example/hustings/hustings/model/Outcome;)V" } : Jvm.MethodName) prog_32_method_2_code (3 : Nat) (Option.none : Option Jvm.ClassFile.FieldType)).before args0 about1 = true := code_word (m := ⟨2, 1⟩) (meth := k2m1) (c := k2c1) (by decide +kernel) rfl rfl rfl (by decide +kernel)
set_option maxRecDepth 65536 in
theorem w_c10 : (Jvm.Cond.code ({ cls := "com/example/hustings/hustings/model/Outcome$Won", name := "winner", desc := "()Lcom/example/hustings/hustings/model/Party;" } : Jvm.MethodName) prog_20_method_7_code (1 : Nat) (Option.some (Jvm.ClassFile.FieldType.object "com/example/hustings/hustings/model/Party"))).before args0 about1 = true := code_word (m := ⟨11, 1⟩) (meth := k11m1) (c := k11c1) (by decide +kernel) rfl rfl rfl (by decide +kernel)
set_option maxRecDepth 65536 in
theorem w_c11 : (Jvm.Cond.code ({ cls := "java/lang/Enum", name := "ordinal", desc := "()I" } : Jvm.MethodName) jdk_37_method_2_code (1 : Nat) (Option.some Jvm.ClassFile.FieldType.int)).before args0 about1 = true := code_word (m := ⟨6, 0⟩) (meth := k6m0) (c := k6c0) (by decide +kernel) rfl rfl rfl (by decide +kernel)
set_option maxRecDepth 65536 in
theorem w_c12 : (Jvm.Cond.code ({ cls := "com/example/hustings/hustings/model/Outcome$Tie", name := "<init>", desc := "()V" } : Jvm.MethodName) prog_19_method_1_code (1 : Nat) (Option.none : Option Jvm.ClassFile.FieldType)).before args0 about1 = true := code_word (m := ⟨16, 0⟩) (meth := k16m0) (c := k16c0) (by decide +kernel) rfl rfl rfl (by decide +kernel)
set_option maxRecDepth 65536 in
theorem w_c13 : (Jvm.Cond.code ({ cls := "com/example/hustings/hustings/model/Wins", name := "addAll", desc := "(Lcom/example/hustings/hustings/model/Wins;)V" } : Jvm.MethodName) prog_32_method_3_code (3 : Nat) (Option.none : Option Jvm.ClassFile.FieldType)).before args0 about1 = true := code_word (m := ⟨2, 2⟩) (meth := k2m2) (c := k2c2) (by decide +kernel) rfl rfl rfl (by decide +kernel)
set_option maxRecDepth 65536 in
theorem w_c14 : (Jvm.Cond.code ({ cls := "com/example/hustings/hustings/model/WinsAddAllPinLaw", name := "cnt", desc := "(III)J" } : Jvm.MethodName) method_4_code (5 : Nat) (Option.some Jvm.ClassFile.FieldType.long)).before args0 about1 = true := code_word (m := ⟨1, 3⟩) (meth := k1m3) (c := k1c3) (by decide +kernel) rfl rfl rfl (by decide +kernel)
set_option maxRecDepth 65536 in
theorem w_c15 : (Jvm.Cond.code ({ cls := "com/example/hustings/hustings/model/Wins", name := "of", desc := "(Lcom/example/hustings/hustings/model/Party;)J" } : Jvm.MethodName) prog_32_method_5_code (2 : Nat) (Option.some Jvm.ClassFile.FieldType.long)).before args0 about1 = true := code_word (m := ⟨2, 4⟩) (meth := k2m4) (c := k2c4) (by decide +kernel) rfl rfl rfl (by decide +kernel)
set_option maxRecDepth 65536 in
theorem w_c16 : (Jvm.Cond.code ({ cls := "com/example/hustings/hustings/model/Wins", name := "ties", desc := "()J" } : Jvm.MethodName) prog_32_method_6_code (1 : Nat) (Option.some Jvm.ClassFile.FieldType.long)).before args0 about1 = true := code_word (m := ⟨2, 5⟩) (meth := k2m5) (c := k2c5) (by decide +kernel) rfl rfl rfl (by decide +kernel)
set_option maxRecDepth 65536 in
theorem w_c17 : (Jvm.Cond.code ({ cls := "com/example/hustings/hustings/model/Wins", name := "games", desc := "()J" } : Jvm.MethodName) prog_32_method_4_code (8 : Nat) (Option.some Jvm.ClassFile.FieldType.long)).before args0 about1 = true := code_word (m := ⟨2, 3⟩) (meth := k2m3) (c := k2c3) (by decide +kernel) rfl rfl rfl (by decide +kernel)
def codes1 : List Jvm.Cond := [Jvm.Cond.code x code maxLocals ret, Jvm.Cond.code ({ cls := "com/example/hustings/hustings/model/WinsAddAllPinLaw", name := "code", desc := "(I)I" } : Jvm.MethodName) method_2_code (1 : Nat) (Option.some Jvm.ClassFile.FieldType.int), Jvm.Cond.code ({ cls := "com/example/hustings/hustings/model/Wins", name := "<init>", desc := "()V" } : Jvm.MethodName) prog_32_method_1_code (1 : Nat) (Option.none : Option Jvm.ClassFile.FieldType), Jvm.Cond.code ({ cls := "java/lang/Object", name := "<init>", desc := "()V" } : Jvm.MethodName) object_method_1_code (1 : Nat) (Option.none : Option Jvm.ClassFile.FieldType), Jvm.Cond.code ({ cls := "com/example/hustings/hustings/model/Party", name := "values", desc := "()[Lcom/example/hustings/hustings/model/Party;" } : Jvm.MethodName) prog_21_method_1_code (0 : Nat) (Option.some (Jvm.ClassFile.FieldType.array (Jvm.ClassFile.FieldType.object "com/example/hustings/hustings/model/Party"))), Jvm.Cond.code ({ cls := "com/example/hustings/hustings/model/WinsAddAllPinLaw", name := "put", desc := "(Lcom/example/hustings/hustings/model/Wins;I)V" } : Jvm.MethodName) method_3_code (2 : Nat) (Option.none : Option Jvm.ClassFile.FieldType), Jvm.Cond.code ({ cls := "com/example/hustings/hustings/model/Outcome$Won", name := "<init>", desc := "(Lcom/example/hustings/hustings/model/Party;I)V" } : Jvm.MethodName) prog_20_method_1_code (3 : Nat) (Option.none : Option Jvm.ClassFile.FieldType), Jvm.Cond.code ({ cls := "java/lang/Record", name := "<init>", desc := "()V" } : Jvm.MethodName) jdk_30_method_1_code (1 : Nat) (Option.none : Option Jvm.ClassFile.FieldType), Jvm.Cond.code ({ cls := "java/util/Objects", name := "requireNonNull", desc := "(Ljava/lang/Object;Ljava/lang/String;)Ljava/lang/Object;" } : Jvm.MethodName) jdk_31_method_11_code (2 : Nat) (Option.some (Jvm.ClassFile.FieldType.object "java/lang/Object")), Jvm.Cond.code ({ cls := "com/example/hustings/hustings/model/Wins", name := "add", desc := "(Lcom/example/hustings/hustings/model/Outcome;)V" } : Jvm.MethodName) prog_32_method_2_code (3 : Nat) (Option.none : Option Jvm.ClassFile.FieldType), Jvm.Cond.code ({ cls := "com/example/hustings/hustings/model/Outcome$Won", name := "winner", desc := "()Lcom/example/hustings/hustings/model/Party;" } : Jvm.MethodName) prog_20_method_7_code (1 : Nat) (Option.some (Jvm.ClassFile.FieldType.object "com/example/hustings/hustings/model/Party")), Jvm.Cond.code ({ cls := "java/lang/Enum", name := "ordinal", desc := "()I" } : Jvm.MethodName) jdk_37_method_2_code (1 : Nat) (Option.some Jvm.ClassFile.FieldType.int), Jvm.Cond.code ({ cls := "com/example/hustings/hustings/model/Outcome$Tie", name := "<init>", desc := "()V" } : Jvm.MethodName) prog_19_method_1_code (1 : Nat) (Option.none : Option Jvm.ClassFile.FieldType), Jvm.Cond.code ({ cls := "com/example/hustings/hustings/model/Wins", name := "addAll", desc := "(Lcom/example/hustings/hustings/model/Wins;)V" } : Jvm.MethodName) prog_32_method_3_code (3 : Nat) (Option.none : Option Jvm.ClassFile.FieldType), Jvm.Cond.code ({ cls := "com/example/hustings/hustings/model/WinsAddAllPinLaw", name := "cnt", desc := "(III)J" } : Jvm.MethodName) method_4_code (5 : Nat) (Option.some Jvm.ClassFile.FieldType.long), Jvm.Cond.code ({ cls := "com/example/hustings/hustings/model/Wins", name := "of", desc := "(Lcom/example/hustings/hustings/model/Party;)J" } : Jvm.MethodName) prog_32_method_5_code (2 : Nat) (Option.some Jvm.ClassFile.FieldType.long), Jvm.Cond.code ({ cls := "com/example/hustings/hustings/model/Wins", name := "ties", desc := "()J" } : Jvm.MethodName) prog_32_method_6_code (1 : Nat) (Option.some Jvm.ClassFile.FieldType.long), Jvm.Cond.code ({ cls := "com/example/hustings/hustings/model/Wins", name := "games", desc := "()J" } : Jvm.MethodName) prog_32_method_4_code (8 : Nat) (Option.some Jvm.ClassFile.FieldType.long)]
set_option maxRecDepth 65536 in
theorem codes_eq : words1.filter isCode = codes1 := rfl
theorem w_codes : ∀ c ∈ words1.filter isCode, c.before args0 about1 = true := by
  rw [codes_eq]
  intro c hc
  simp only [codes1, List.mem_cons, List.not_mem_nil, or_false] at hc
  rcases hc with rfl | rfl | rfl | rfl | rfl | rfl | rfl | rfl | rfl | rfl | rfl | rfl | rfl | rfl | rfl | rfl | rfl | rfl
  · exact w_c0
  · exact w_c1
  · exact w_c2
  · exact w_c3
  · exact w_c4
  · exact w_c5
  · exact w_c6
  · exact w_c7
  · exact w_c8
  · exact w_c9
  · exact w_c10
  · exact w_c11
  · exact w_c12
  · exact w_c13
  · exact w_c14
  · exact w_c15
  · exact w_c16
  · exact w_c17
set_option maxRecDepth 65536 in
theorem w_t1 : (words1.take 24).all (fun c => isCode c || c.before args0 about1) = true := by decide +kernel
set_option maxRecDepth 65536 in
theorem w_t2 : ((words1.drop 24).take 24).all (fun c => isCode c || c.before args0 about1) = true := by decide +kernel
set_option maxRecDepth 65536 in
theorem w_t3 : (((words1.drop 24).drop 24).take 24).all (fun c => isCode c || c.before args0 about1) = true := by decide +kernel
set_option maxRecDepth 65536 in
theorem w_t4 : ((((words1.drop 24).drop 24).drop 24).take 24).all (fun c => isCode c || c.before args0 about1) = true := by decide +kernel
set_option maxRecDepth 65536 in
theorem w_t5 : (((((words1.drop 24).drop 24).drop 24).drop 24).take 24).all (fun c => isCode c || c.before args0 about1) = true := by decide +kernel
set_option maxRecDepth 65536 in
theorem w_t6 : (((((words1.drop 24).drop 24).drop 24).drop 24).drop 24).all (fun c => isCode c || c.before args0 about1) = true := by decide +kernel
theorem w_tables : (allAtoms (Jvm.Cond.code x code maxLocals ret :: tables_1)).before args0 about1 = true := by
  rw [allAtoms_all]
  show words1.all (fun c => c.before args0 about1) = true
  refine all_split ?_ w_codes
  rw [← List.take_append_drop 24 words1, List.all_append, w_t1, ← List.take_append_drop 24 (words1.drop 24), List.all_append, w_t2, ← List.take_append_drop 24 ((words1.drop 24).drop 24), List.all_append, w_t3, ← List.take_append_drop 24 (((words1.drop 24).drop 24).drop 24), List.all_append, w_t4, ← List.take_append_drop 24 ((((words1.drop 24).drop 24).drop 24).drop 24), List.all_append, w_t5, w_t6]
  rfl
set_option maxRecDepth 65536 in
theorem w_case : (Jvm.Cond.and given_1 narrow_1).before args0 about1 = true := by decide +kernel
theorem w_applies : (headSpec (Jvm.Cond.code x code maxLocals ret :: tables_1) room_1).applies x e0.platform about1 = true :=
  (Spec.applies_iff w_frames).mpr ⟨w_running, w_runnable, w_alone, w_named, w_hears, w_ripe, w_room, w_tables⟩
theorem atStart : AtStart classFile x code maxLocals ret World_1 tables_1 room_1 Calls_1 rest_1 Pre_1 launch0 p0 e0 about1 theMethod args0 below0 :=
  ⟨lists_1, trivial, launch0.admits_env _ _ _, launch0.least_env, fairChoices_fair.cas, fairChoices_fair.clock, w_frames, w_args, w_heap, w_applies, trivial, trivial, w_case⟩
end start1
theorem witness_1 : WitnessClaimed_1 := ⟨start1.p0, start1.e0, start1.about1, start1.theMethod, start1.args0, start1.below0, start1.atStart⟩
end Jvm.Pilot.@@N@@
