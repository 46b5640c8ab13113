import JvmDerived
import JvmDerived.Pilot.@@N@@Statement
import JvmDerived.Pilot.@@N@@Code
set_option linter.unusedVariables false
set_option linter.unusedSimpArgs false
namespace Jvm.Pilot.@@N@@
open Jvm Jvm.ClassFile Sem Op Lib Jvm.Free Jvm.Stand Jvm.LawKit Jvm.RoadKit Bundle Jvm.Pilot.@@N@@.Jvm.D
section OwnGo
variable {p : Program} {l : Launch} {e : Env} {R : Room} {s : State} {m : MethodId} {args : Array Value} {below : List Frame} {meth : Method} {c : Code} {Z : State} {n0 kc ks : Nat} {Q : Option Value → Heap → Prop} {y : MethodName} {bytes : ByteArray} {maxL : Nat} {ret : Option FieldType} {h h' : Heap} {cs sl : Nat} {pc pc' : Nat} {Ls Ls' : Array Slot} {st : List Value} {a0 : Array Value}
def Ctx (p : Program) (s : State) (m : MethodId) (meth : Method) (c : Code) (Z : State) (y : MethodName) (bytes : ByteArray) (maxL : Nat) (ret : Option FieldType) : Prop :=
  p.tables.exec = Jvm.exec ∧ c.code = bytes ∧ c.maxLocals = maxL ∧ meth.sig.returnType = ret ∧ meth.locks = false ∧ Z.Warmed39 s.vm ∧ s.vm.findClass y.cls = some m.cls ∧ meth.name = y.name
def Go (p : Program) (l : Launch) (e : Env) (R : Room) (s : State) (m : MethodId) (args : Array Value) (below : List Frame) (meth : Method) (c : Code) (Z : State) (n0 : Nat) (Q : Option Value → Heap → Prop) (kc ks : Nat) (h : Heap) (cs sl : Nat) (g : JFrame) : Prop :=
  ∀ (T : State) (L : List Loc), Fr n0 L → Old Z n0 h → Stand p l e R s m args below meth c T L cs sl → T.heap = h →
    ∃ (U : State) (v : Option Value) (L' : List Loc), Steps p.tables e below (T.setTop g) U ∧ U.status = .running ∧ Ended U below (.returned v) ∧ Fr n0 L' ∧ Old Z n0 U.heap ∧ s.WarmedH U.vm ∧ s.sameButNew ({ U with vm := s.vm } : State) L' kc ks ∧ Q v U.heap
def Met (l : Launch) (Z : State) (n0 : Nat) (y : MethodName) (bytes : ByteArray) (maxL : Nat) (ret : Option FieldType) (ws : List Jvm.Cond) (rm : Room) (as : Array Value) (h : Heap) (Q : Option Value → Heap → Prop) : Prop :=
  MetFree l y (head1 (Jvm.Cond.code y bytes maxL ret :: ws) rm) (fun a U => a = as ∧ Z.Warmed39 U.vm ∧ U.heap = h) (fun _ _ _ _ _ => True) (fun _ U o U' => ∃ v L, o = .returned v ∧ (Fr n0 L ∧ Old Z n0 U'.heap ∧ Q v U'.heap) ∧ FrameEnd U o U' L rm.cells rm.slots)
theorem met_of {ws : List Jvm.Cond} {rm : Room} {as : Array Value} (hpl : plainFor y = true) (hef : ∀ m, entryFrame m as maxL = mkF m 0 Ls []) (O : Old Z n0 h)
    (body : ∀ p e s m below meth c, Ctx p s m meth c Z y bytes maxL ret → Go p l e rm s m as below meth c Z n0 Q rm.cells rm.slots h 0 0 (mkF m 0 Ls [])) : Met l Z n0 y bytes maxL ret ws rm as h Q := by
  refine MetFree.of_bodySF hpl hisR ?_
  intro p e s m args below meth c s₁ Bd hml hP hK
  obtain ⟨rfl, hZ, hh⟩ := hP
  have X0 := Stand.of_body Bd
  obtain ⟨U, v, L', h1, h2, h3, h4, h5, h6, h7, h8⟩ := body p e s m below meth c ⟨Bd.exec, Bd.bytes, hml, Bd.returns, Bd.notSynchronized, hZ, findClass_of_methodNamed Bd.named, (name_of_methodNamed Bd.named Bd.method).1⟩ s₁ [] (Fr.nil n0) O X0 (by rw [← hh, Bd.state]; rfl)
  exact ⟨U, _, castTop (hef m) h1, h2, h3, v, L', rfl, ⟨h4, h5, h8⟩, ⟨_, rfl⟩, h6, h7⟩
theorem Met.mono {ws : List Jvm.Cond} {rm : Room} {as : Array Value} {Q' : Option Value → Heap → Prop} (M : Met l Z n0 y bytes maxL ret ws rm as h Q) (q : ∀ v h', Q v h' → Q' v h') : Met l Z n0 y bytes maxL ret ws rm as h Q' := by
  unfold Met at M ⊢
  refine MetFree.mono M (fun _ _ h => h) (fun _ _ _ _ _ h => h) ?_
  rintro _ _ _ _ _ ⟨v, L, h1, ⟨h2, h3, h4⟩, h5⟩
  exact ⟨v, L, h1, ⟨h2, h3, q _ _ h4⟩, h5⟩
theorem go_step {g g' : JFrame} (K : Go p l e R s m args below meth c Z n0 Q kc ks h cs sl g') (hs : ∀ T t, At T m c below → Steps p.tables e below (T.setTop g') t → Steps p.tables e below (T.setTop g) t) : Go p l e R s m args below meth c Z n0 Q kc ks h cs sl g := fun T L hL O X eT => by
  obtain ⟨U, v, L', h1, r⟩ := K T L hL O X eT
  exact ⟨U, v, L', hs T U X.here h1, r⟩
theorem go_stepX {g g' : JFrame} (K : Go p l e R s m args below meth c Z n0 Q kc ks h cs sl g') (hs : ∀ T t L, Stand p l e R s m args below meth c T L cs sl → T.heap = h → Steps p.tables e below (T.setTop g') t → Steps p.tables e below (T.setTop g) t) : Go p l e R s m args below meth c Z n0 Q kc ks h cs sl g := fun T L hL O X eT => by
  obtain ⟨U, v, L', h1, r⟩ := K T L hL O X eT
  exact ⟨U, v, L', hs T U L X eT h1, r⟩
theorem go_stepT {g g' : JFrame} (K : Go p l e R s m args below meth c Z n0 Q kc ks h cs sl g') (hs : ∀ T L, Stand p l e R s m args below meth c T L cs sl → T.heap = h → ∃ T', Stand p l e R s m args below meth c T' L cs sl ∧ T'.heap = h ∧ ∀ t, Steps p.tables e below (T'.setTop g') t → Steps p.tables e below (T.setTop g) t) : Go p l e R s m args below meth c Z n0 Q kc ks h cs sl g := fun T L hL O X eT => by
  obtain ⟨T', X', e', hs'⟩ := hs T L X eT
  obtain ⟨U, v, L', h1, r⟩ := K T' L hL O X' e'
  exact ⟨U, v, L', hs' U h1, r⟩
theorem go_old {g : JFrame} (K : Old Z n0 h → Go p l e R s m args below meth c Z n0 Q kc ks h cs sl g) : Go p l e R s m args below meth c Z n0 Q kc ks h cs sl g := fun T L hL O => K O T L hL O
theorem go_more {g : JFrame} {cs' sl' : Nat} (hc : cs ≤ cs') (hs : sl ≤ sl') (K : Go p l e R s m args below meth c Z n0 Q kc ks h cs' sl' g) : Go p l e R s m args below meth c Z n0 Q kc ks h cs sl g := fun T L hL O X eT => K T L hL O (X.more hc hs) eT
theorem go_st {st' : List Value} (e0 : st = st') (K : Go p l e R s m args below meth c Z n0 Q kc ks h cs sl (mkF m pc Ls st')) : Go p l e R s m args below meth c Z n0 Q kc ks h cs sl (mkF m pc Ls st) := e0 ▸ K
theorem go_ls (e0 : Ls = Ls') (K : Go p l e R s m args below meth c Z n0 Q kc ks h cs sl (mkF m pc Ls' st)) : Go p l e R s m args below meth c Z n0 Q kc ks h cs sl (mkF m pc Ls st) := e0 ▸ K
theorem go_h {h' : Heap} {g : JFrame} (e0 : h = h') (K : Go p l e R s m args below meth c Z n0 Q kc ks h' cs sl g) : Go p l e R s m args below meth c Z n0 Q kc ks h cs sl g := e0 ▸ K
theorem go_iload (C : Ctx p s m meth c Z y bytes maxL ret) {k : Nat} {x : Int32} (hd : decode bytes pc = .ok (.iload k, 2)) (hl : Ls[k]? = some (.val (.int x))) (hp : pc + 2 = pc') (K : Go p l e R s m args below meth c Z n0 Q kc ks h cs sl (mkF m pc' Ls (.int x :: st))) : Go p l e R s m args below meth c Z n0 Q kc ks h cs sl (mkF m pc Ls (st)) := by
  subst hp
  exact go_step K fun T t a k => XS.iload a C.1 rfl (hb C.2.1 hd) hl k
theorem go_iloadN (C : Ctx p s m meth c Z y bytes maxL ret) {k : Fin 4} {x : Int32} (hd : decode bytes pc = .ok (.iload_n k, 1)) (hl : Ls[k.val]? = some (.val (.int x))) (hp : pc + 1 = pc') (K : Go p l e R s m args below meth c Z n0 Q kc ks h cs sl (mkF m pc' Ls (.int x :: st))) : Go p l e R s m args below meth c Z n0 Q kc ks h cs sl (mkF m pc Ls (st)) := by
  subst hp
  exact go_step K fun T t a k => XS.iloadN a C.1 rfl (hb C.2.1 hd) hl k
theorem go_lload (C : Ctx p s m meth c Z y bytes maxL ret) {k : Nat} {x : Int64} (hd : decode bytes pc = .ok (.lload k, 2)) (hl : Ls[k]? = some (.val (.long x))) (hp : pc + 2 = pc') (K : Go p l e R s m args below meth c Z n0 Q kc ks h cs sl (mkF m pc' Ls (.long x :: st))) : Go p l e R s m args below meth c Z n0 Q kc ks h cs sl (mkF m pc Ls (st)) := by
  subst hp
  exact go_step K fun T t a k => XS.lload a C.1 rfl (hb C.2.1 hd) hl k
theorem go_lloadN (C : Ctx p s m meth c Z y bytes maxL ret) {k : Fin 4} {x : Int64} (hd : decode bytes pc = .ok (.lload_n k, 1)) (hl : Ls[k.val]? = some (.val (.long x))) (hp : pc + 1 = pc') (K : Go p l e R s m args below meth c Z n0 Q kc ks h cs sl (mkF m pc' Ls (.long x :: st))) : Go p l e R s m args below meth c Z n0 Q kc ks h cs sl (mkF m pc Ls (st)) := by
  subst hp
  exact go_step K fun T t a k => XS.lloadN a C.1 rfl (hb C.2.1 hd) hl k
theorem go_aload (C : Ctx p s m meth c Z y bytes maxL ret) {k : Nat} {v : Value} (hd : decode bytes pc = .ok (.aload k, 2)) (hl : Ls[k]? = some (.val v)) (hv : v.isRef = true) (hp : pc + 2 = pc') (K : Go p l e R s m args below meth c Z n0 Q kc ks h cs sl (mkF m pc' Ls (v :: st))) : Go p l e R s m args below meth c Z n0 Q kc ks h cs sl (mkF m pc Ls (st)) := by
  subst hp
  exact go_step K fun T t a k => XS.aload a C.1 rfl (hb C.2.1 hd) hl hv k
theorem go_aloadN (C : Ctx p s m meth c Z y bytes maxL ret) {k : Fin 4} {v : Value} (hd : decode bytes pc = .ok (.aload_n k, 1)) (hl : Ls[k.val]? = some (.val v)) (hv : v.isRef = true) (hp : pc + 1 = pc') (K : Go p l e R s m args below meth c Z n0 Q kc ks h cs sl (mkF m pc' Ls (v :: st))) : Go p l e R s m args below meth c Z n0 Q kc ks h cs sl (mkF m pc Ls (st)) := by
  subst hp
  exact go_step K fun T t a k => XS.aloadN a C.1 rfl (hb C.2.1 hd) hl hv k
theorem go_istore (C : Ctx p s m meth c Z y bytes maxL ret) {k : Nat} {x : Int32} (hd : decode bytes pc = .ok (.istore k, 2)) (hl : storeLocals Ls k (.int x) = some Ls') (hp : pc + 2 = pc') (K : Go p l e R s m args below meth c Z n0 Q kc ks h cs sl (mkF m pc' Ls' (st))) : Go p l e R s m args below meth c Z n0 Q kc ks h cs sl (mkF m pc Ls (.int x :: st)) := by
  subst hp
  exact go_step K fun T t a k => XS.istore a C.1 rfl (hb C.2.1 hd) rfl hl k
theorem go_istoreN (C : Ctx p s m meth c Z y bytes maxL ret) {k : Fin 4} {x : Int32} (hd : decode bytes pc = .ok (.istore_n k, 1)) (hl : storeLocals Ls k.val (.int x) = some Ls') (hp : pc + 1 = pc') (K : Go p l e R s m args below meth c Z n0 Q kc ks h cs sl (mkF m pc' Ls' (st))) : Go p l e R s m args below meth c Z n0 Q kc ks h cs sl (mkF m pc Ls (.int x :: st)) := by
  subst hp
  exact go_step K fun T t a k => XS.istoreN a C.1 rfl (hb C.2.1 hd) rfl hl k
theorem go_lstore (C : Ctx p s m meth c Z y bytes maxL ret) {k : Nat} {x : Int64} (hd : decode bytes pc = .ok (.lstore k, 2)) (hl : storeLocals Ls k (.long x) = some Ls') (hp : pc + 2 = pc') (K : Go p l e R s m args below meth c Z n0 Q kc ks h cs sl (mkF m pc' Ls' (st))) : Go p l e R s m args below meth c Z n0 Q kc ks h cs sl (mkF m pc Ls (.long x :: st)) := by
  subst hp
  exact go_step K fun T t a k => XS.lstore a C.1 rfl (hb C.2.1 hd) rfl hl k
theorem go_lstoreN (C : Ctx p s m meth c Z y bytes maxL ret) {k : Fin 4} {x : Int64} (hd : decode bytes pc = .ok (.lstore_n k, 1)) (hl : storeLocals Ls k.val (.long x) = some Ls') (hp : pc + 1 = pc') (K : Go p l e R s m args below meth c Z n0 Q kc ks h cs sl (mkF m pc' Ls' (st))) : Go p l e R s m args below meth c Z n0 Q kc ks h cs sl (mkF m pc Ls (.long x :: st)) := by
  subst hp
  exact go_step K fun T t a k => XS.lstoreN a C.1 rfl (hb C.2.1 hd) rfl hl k
theorem go_astore (C : Ctx p s m meth c Z y bytes maxL ret) {k : Nat} {v : Value} (hd : decode bytes pc = .ok (.astore k, 2)) (hv : v.isRef = true) (hl : storeLocals Ls k v = some Ls') (hp : pc + 2 = pc') (K : Go p l e R s m args below meth c Z n0 Q kc ks h cs sl (mkF m pc' Ls' (st))) : Go p l e R s m args below meth c Z n0 Q kc ks h cs sl (mkF m pc Ls (v :: st)) := by
  subst hp
  exact go_step K fun T t a k => XS.astore a C.1 rfl (hb C.2.1 hd) rfl hv hl k
theorem go_astoreN (C : Ctx p s m meth c Z y bytes maxL ret) {k : Fin 4} {v : Value} (hd : decode bytes pc = .ok (.astore_n k, 1)) (hv : v.isRef = true) (hl : storeLocals Ls k.val v = some Ls') (hp : pc + 1 = pc') (K : Go p l e R s m args below meth c Z n0 Q kc ks h cs sl (mkF m pc' Ls' (st))) : Go p l e R s m args below meth c Z n0 Q kc ks h cs sl (mkF m pc Ls (v :: st)) := by
  subst hp
  exact go_step K fun T t a k => XS.astoreN a C.1 rfl (hb C.2.1 hd) rfl hv hl k
theorem go_iinc (C : Ctx p s m meth c Z y bytes maxL ret) {k : Nat} {cst : Int} {x : Int32} (hd : decode bytes pc = .ok (.iinc k cst, 3)) (hl : Ls[k]? = some (.val (.int x))) (hl' : storeLocals Ls k (.int (x + Int32.ofInt cst)) = some Ls') (hp : pc + 3 = pc') (K : Go p l e R s m args below meth c Z n0 Q kc ks h cs sl (mkF m pc' Ls' (st))) : Go p l e R s m args below meth c Z n0 Q kc ks h cs sl (mkF m pc Ls (st)) := by
  subst hp
  exact go_step K fun T t a k => XS.iinc a C.1 rfl (hb C.2.1 hd) hl hl' k
theorem go_iconst (C : Ctx p s m meth c Z y bytes maxL ret) {i : Int} {z : Int32} (hd : decode bytes pc = .ok (.iconst i, 1)) (hz : Int32.ofInt i = z) (hp : pc + 1 = pc') (K : Go p l e R s m args below meth c Z n0 Q kc ks h cs sl (mkF m pc' Ls (.int z :: st))) : Go p l e R s m args below meth c Z n0 Q kc ks h cs sl (mkF m pc Ls (st)) := by
  subst hp hz
  exact go_step K fun T t a k => XS.iconst a C.1 rfl (hb C.2.1 hd) k
theorem go_bipush (C : Ctx p s m meth c Z y bytes maxL ret) {i : Int} {z : Int32} (hd : decode bytes pc = .ok (.bipush i, 2)) (hz : (Int8.ofInt i).toInt32 = z) (hp : pc + 2 = pc') (K : Go p l e R s m args below meth c Z n0 Q kc ks h cs sl (mkF m pc' Ls (.int z :: st))) : Go p l e R s m args below meth c Z n0 Q kc ks h cs sl (mkF m pc Ls (st)) := by
  subst hp hz
  exact go_step K fun T t a k => XS.bipush a C.1 rfl (hb C.2.1 hd) k
theorem go_sipush (C : Ctx p s m meth c Z y bytes maxL ret) {i : Int} {z : Int32} (hd : decode bytes pc = .ok (.sipush i, 3)) (hz : (Int16.ofInt i).toInt32 = z) (hp : pc + 3 = pc') (K : Go p l e R s m args below meth c Z n0 Q kc ks h cs sl (mkF m pc' Ls (.int z :: st))) : Go p l e R s m args below meth c Z n0 Q kc ks h cs sl (mkF m pc Ls (st)) := by
  subst hp hz
  exact go_step K fun T t a k => XS.sipush a C.1 rfl (hb C.2.1 hd) k
theorem go_lconst (C : Ctx p s m meth c Z y bytes maxL ret) {k : Fin 2} {z : Int64} (hd : decode bytes pc = .ok (.lconst k, 1)) (hz : Int64.ofNat k = z) (hp : pc + 1 = pc') (K : Go p l e R s m args below meth c Z n0 Q kc ks h cs sl (mkF m pc' Ls (.long z :: st))) : Go p l e R s m args below meth c Z n0 Q kc ks h cs sl (mkF m pc Ls (st)) := by
  subst hp hz
  exact go_step K fun T t a k => XS.lconst a C.1 rfl (hb C.2.1 hd) k
theorem go_aconstNull (C : Ctx p s m meth c Z y bytes maxL ret)  (hd : decode bytes pc = .ok (.aconst_null, 1))  (hp : pc + 1 = pc') (K : Go p l e R s m args below meth c Z n0 Q kc ks h cs sl (mkF m pc' Ls (.null :: st))) : Go p l e R s m args below meth c Z n0 Q kc ks h cs sl (mkF m pc Ls (st)) := by
  subst hp
  exact go_step K fun T t a k => XS.aconstNull a C.1 rfl (hb C.2.1 hd) k
theorem go_iadd (C : Ctx p s m meth c Z y bytes maxL ret) {x y : Int32} (hd : decode bytes pc = .ok (.iadd, 1))  (hp : pc + 1 = pc') (K : Go p l e R s m args below meth c Z n0 Q kc ks h cs sl (mkF m pc' Ls (.int (x + y) :: st))) : Go p l e R s m args below meth c Z n0 Q kc ks h cs sl (mkF m pc Ls (.int y :: .int x :: st)) := by
  subst hp
  exact go_step K fun T t a k => XS.iadd a C.1 rfl (hb C.2.1 hd) rfl k
theorem go_ladd (C : Ctx p s m meth c Z y bytes maxL ret) {x y : Int64} (hd : decode bytes pc = .ok (.ladd, 1))  (hp : pc + 1 = pc') (K : Go p l e R s m args below meth c Z n0 Q kc ks h cs sl (mkF m pc' Ls (.long (x + y) :: st))) : Go p l e R s m args below meth c Z n0 Q kc ks h cs sl (mkF m pc Ls (.long y :: .long x :: st)) := by
  subst hp
  exact go_step K fun T t a k => XS.ladd a C.1 rfl (hb C.2.1 hd) rfl k
theorem go_isub (C : Ctx p s m meth c Z y bytes maxL ret) {x y : Int32} (hd : decode bytes pc = .ok (.isub, 1))  (hp : pc + 1 = pc') (K : Go p l e R s m args below meth c Z n0 Q kc ks h cs sl (mkF m pc' Ls (.int (x - y) :: st))) : Go p l e R s m args below meth c Z n0 Q kc ks h cs sl (mkF m pc Ls (.int y :: .int x :: st)) := by
  subst hp
  exact go_step K fun T t a k => XS.isub a C.1 rfl (hb C.2.1 hd) rfl k
theorem go_lsub (C : Ctx p s m meth c Z y bytes maxL ret) {x y : Int64} (hd : decode bytes pc = .ok (.lsub, 1))  (hp : pc + 1 = pc') (K : Go p l e R s m args below meth c Z n0 Q kc ks h cs sl (mkF m pc' Ls (.long (x - y) :: st))) : Go p l e R s m args below meth c Z n0 Q kc ks h cs sl (mkF m pc Ls (.long y :: .long x :: st)) := by
  subst hp
  exact go_step K fun T t a k => XS.lsub a C.1 rfl (hb C.2.1 hd) rfl k
theorem go_imul (C : Ctx p s m meth c Z y bytes maxL ret) {x y : Int32} (hd : decode bytes pc = .ok (.imul, 1))  (hp : pc + 1 = pc') (K : Go p l e R s m args below meth c Z n0 Q kc ks h cs sl (mkF m pc' Ls (.int (x * y) :: st))) : Go p l e R s m args below meth c Z n0 Q kc ks h cs sl (mkF m pc Ls (.int y :: .int x :: st)) := by
  subst hp
  exact go_step K fun T t a k => XS.imul a C.1 rfl (hb C.2.1 hd) rfl k
theorem go_lmul (C : Ctx p s m meth c Z y bytes maxL ret) {x y : Int64} (hd : decode bytes pc = .ok (.lmul, 1))  (hp : pc + 1 = pc') (K : Go p l e R s m args below meth c Z n0 Q kc ks h cs sl (mkF m pc' Ls (.long (x * y) :: st))) : Go p l e R s m args below meth c Z n0 Q kc ks h cs sl (mkF m pc Ls (.long y :: .long x :: st)) := by
  subst hp
  exact go_step K fun T t a k => XS.lmul a C.1 rfl (hb C.2.1 hd) rfl k
theorem go_iand (C : Ctx p s m meth c Z y bytes maxL ret) {x y : Int32} (hd : decode bytes pc = .ok (.iand, 1))  (hp : pc + 1 = pc') (K : Go p l e R s m args below meth c Z n0 Q kc ks h cs sl (mkF m pc' Ls (.int (x &&& y) :: st))) : Go p l e R s m args below meth c Z n0 Q kc ks h cs sl (mkF m pc Ls (.int y :: .int x :: st)) := by
  subst hp
  exact go_step K fun T t a k => XS.iand a C.1 rfl (hb C.2.1 hd) rfl k
theorem go_land (C : Ctx p s m meth c Z y bytes maxL ret) {x y : Int64} (hd : decode bytes pc = .ok (.land, 1))  (hp : pc + 1 = pc') (K : Go p l e R s m args below meth c Z n0 Q kc ks h cs sl (mkF m pc' Ls (.long (x &&& y) :: st))) : Go p l e R s m args below meth c Z n0 Q kc ks h cs sl (mkF m pc Ls (.long y :: .long x :: st)) := by
  subst hp
  exact go_step K fun T t a k => XS.land a C.1 rfl (hb C.2.1 hd) rfl k
theorem go_ior (C : Ctx p s m meth c Z y bytes maxL ret) {x y : Int32} (hd : decode bytes pc = .ok (.ior, 1))  (hp : pc + 1 = pc') (K : Go p l e R s m args below meth c Z n0 Q kc ks h cs sl (mkF m pc' Ls (.int (x ||| y) :: st))) : Go p l e R s m args below meth c Z n0 Q kc ks h cs sl (mkF m pc Ls (.int y :: .int x :: st)) := by
  subst hp
  exact go_step K fun T t a k => XS.ior a C.1 rfl (hb C.2.1 hd) rfl k
theorem go_lor (C : Ctx p s m meth c Z y bytes maxL ret) {x y : Int64} (hd : decode bytes pc = .ok (.lor, 1))  (hp : pc + 1 = pc') (K : Go p l e R s m args below meth c Z n0 Q kc ks h cs sl (mkF m pc' Ls (.long (x ||| y) :: st))) : Go p l e R s m args below meth c Z n0 Q kc ks h cs sl (mkF m pc Ls (.long y :: .long x :: st)) := by
  subst hp
  exact go_step K fun T t a k => XS.lor a C.1 rfl (hb C.2.1 hd) rfl k
theorem go_ixor (C : Ctx p s m meth c Z y bytes maxL ret) {x y : Int32} (hd : decode bytes pc = .ok (.ixor, 1))  (hp : pc + 1 = pc') (K : Go p l e R s m args below meth c Z n0 Q kc ks h cs sl (mkF m pc' Ls (.int (x ^^^ y) :: st))) : Go p l e R s m args below meth c Z n0 Q kc ks h cs sl (mkF m pc Ls (.int y :: .int x :: st)) := by
  subst hp
  exact go_step K fun T t a k => XS.ixor a C.1 rfl (hb C.2.1 hd) rfl k
theorem go_lxor (C : Ctx p s m meth c Z y bytes maxL ret) {x y : Int64} (hd : decode bytes pc = .ok (.lxor, 1))  (hp : pc + 1 = pc') (K : Go p l e R s m args below meth c Z n0 Q kc ks h cs sl (mkF m pc' Ls (.long (x ^^^ y) :: st))) : Go p l e R s m args below meth c Z n0 Q kc ks h cs sl (mkF m pc Ls (.long y :: .long x :: st)) := by
  subst hp
  exact go_step K fun T t a k => XS.lxor a C.1 rfl (hb C.2.1 hd) rfl k
theorem go_ishl (C : Ctx p s m meth c Z y bytes maxL ret) {x y : Int32} (hd : decode bytes pc = .ok (.ishl, 1))  (hp : pc + 1 = pc') (K : Go p l e R s m args below meth c Z n0 Q kc ks h cs sl (mkF m pc' Ls (.int (x <<< (y &&& 31)) :: st))) : Go p l e R s m args below meth c Z n0 Q kc ks h cs sl (mkF m pc Ls (.int y :: .int x :: st)) := by
  subst hp
  exact go_step K fun T t a k => XS.ishl a C.1 rfl (hb C.2.1 hd) rfl k
theorem go_ishr (C : Ctx p s m meth c Z y bytes maxL ret) {x y : Int32} (hd : decode bytes pc = .ok (.ishr, 1))  (hp : pc + 1 = pc') (K : Go p l e R s m args below meth c Z n0 Q kc ks h cs sl (mkF m pc' Ls (.int (x >>> (y &&& 31)) :: st))) : Go p l e R s m args below meth c Z n0 Q kc ks h cs sl (mkF m pc Ls (.int y :: .int x :: st)) := by
  subst hp
  exact go_step K fun T t a k => XS.ishr a C.1 rfl (hb C.2.1 hd) rfl k
theorem go_iushr (C : Ctx p s m meth c Z y bytes maxL ret) {x y : Int32} (hd : decode bytes pc = .ok (.iushr, 1))  (hp : pc + 1 = pc') (K : Go p l e R s m args below meth c Z n0 Q kc ks h cs sl (mkF m pc' Ls (.int ((x.toUInt32 >>> (y &&& 31).toUInt32).toInt32) :: st))) : Go p l e R s m args below meth c Z n0 Q kc ks h cs sl (mkF m pc Ls (.int y :: .int x :: st)) := by
  subst hp
  exact go_step K fun T t a k => XS.iushr a C.1 rfl (hb C.2.1 hd) rfl k
theorem go_lshl (C : Ctx p s m meth c Z y bytes maxL ret) {x : Int64} {y' : Int32} (hd : decode bytes pc = .ok (.lshl, 1))  (hp : pc + 1 = pc') (K : Go p l e R s m args below meth c Z n0 Q kc ks h cs sl (mkF m pc' Ls (.long (x <<< (y' &&& 0x3f).toInt64) :: st))) : Go p l e R s m args below meth c Z n0 Q kc ks h cs sl (mkF m pc Ls (.int y' :: .long x :: st)) := by
  subst hp
  exact go_step K fun T t a k => XS.lshl a C.1 rfl (hb C.2.1 hd) rfl k
theorem go_lshr (C : Ctx p s m meth c Z y bytes maxL ret) {x : Int64} {y' : Int32} (hd : decode bytes pc = .ok (.lshr, 1))  (hp : pc + 1 = pc') (K : Go p l e R s m args below meth c Z n0 Q kc ks h cs sl (mkF m pc' Ls (.long (x >>> (y' &&& 0x3f).toInt64) :: st))) : Go p l e R s m args below meth c Z n0 Q kc ks h cs sl (mkF m pc Ls (.int y' :: .long x :: st)) := by
  subst hp
  exact go_step K fun T t a k => XS.lshr a C.1 rfl (hb C.2.1 hd) rfl k
theorem go_lushr (C : Ctx p s m meth c Z y bytes maxL ret) {x : Int64} {y' : Int32} (hd : decode bytes pc = .ok (.lushr, 1))  (hp : pc + 1 = pc') (K : Go p l e R s m args below meth c Z n0 Q kc ks h cs sl (mkF m pc' Ls (.long ((x.toUInt64 >>> (y' &&& 0x3f).toInt64.toUInt64).toInt64) :: st))) : Go p l e R s m args below meth c Z n0 Q kc ks h cs sl (mkF m pc Ls (.int y' :: .long x :: st)) := by
  subst hp
  exact go_step K fun T t a k => XS.lushr a C.1 rfl (hb C.2.1 hd) rfl k
theorem go_lcmp (C : Ctx p s m meth c Z y bytes maxL ret) {x y' : Int64} (hd : decode bytes pc = .ok (.lcmp, 1))  (hp : pc + 1 = pc') (K : Go p l e R s m args below meth c Z n0 Q kc ks h cs sl (mkF m pc' Ls (.int (lcmpW x y') :: st))) : Go p l e R s m args below meth c Z n0 Q kc ks h cs sl (mkF m pc Ls (.long y' :: .long x :: st)) := by
  subst hp
  exact go_step K fun T t a k => XS.lcmp a C.1 rfl (hb C.2.1 hd) rfl k
theorem go_idiv (C : Ctx p s m meth c Z y bytes maxL ret) {x y' : Int32} (hd : decode bytes pc = .ok (.idiv, 1)) (hy : y' ≠ 0) (hp : pc + 1 = pc') (K : Go p l e R s m args below meth c Z n0 Q kc ks h cs sl (mkF m pc' Ls (.int (x / y') :: st))) : Go p l e R s m args below meth c Z n0 Q kc ks h cs sl (mkF m pc Ls (.int y' :: .int x :: st)) := by
  subst hp
  exact go_step K fun T t a k => XS.idiv a C.1 rfl (hb C.2.1 hd) rfl hy k
theorem go_ldiv (C : Ctx p s m meth c Z y bytes maxL ret) {x y' : Int64} (hd : decode bytes pc = .ok (.ldiv, 1)) (hy : y' ≠ 0) (hp : pc + 1 = pc') (K : Go p l e R s m args below meth c Z n0 Q kc ks h cs sl (mkF m pc' Ls (.long (x / y') :: st))) : Go p l e R s m args below meth c Z n0 Q kc ks h cs sl (mkF m pc Ls (.long y' :: .long x :: st)) := by
  subst hp
  exact go_step K fun T t a k => XS.ldiv a C.1 rfl (hb C.2.1 hd) rfl hy k
theorem go_irem (C : Ctx p s m meth c Z y bytes maxL ret) {x y' : Int32} (hd : decode bytes pc = .ok (.irem, 1)) (hy : y' ≠ 0) (hp : pc + 1 = pc') (K : Go p l e R s m args below meth c Z n0 Q kc ks h cs sl (mkF m pc' Ls (.int (x % y') :: st))) : Go p l e R s m args below meth c Z n0 Q kc ks h cs sl (mkF m pc Ls (.int y' :: .int x :: st)) := by
  subst hp
  exact go_step K fun T t a k => XS.irem a C.1 rfl (hb C.2.1 hd) rfl hy (by rw [irem_eq_mod]; exact k)
theorem go_lrem (C : Ctx p s m meth c Z y bytes maxL ret) {x y' : Int64} (hd : decode bytes pc = .ok (.lrem, 1)) (hy : y' ≠ 0) (hp : pc + 1 = pc') (K : Go p l e R s m args below meth c Z n0 Q kc ks h cs sl (mkF m pc' Ls (.long (x % y') :: st))) : Go p l e R s m args below meth c Z n0 Q kc ks h cs sl (mkF m pc Ls (.long y' :: .long x :: st)) := by
  subst hp
  exact go_step K fun T t a k => XS.lrem a C.1 rfl (hb C.2.1 hd) rfl hy (by rw [lrem_mod]; exact k)
theorem go_ineg (C : Ctx p s m meth c Z y bytes maxL ret) {x : Int32} (hd : decode bytes pc = .ok (.ineg, 1))  (hp : pc + 1 = pc') (K : Go p l e R s m args below meth c Z n0 Q kc ks h cs sl (mkF m pc' Ls (.int (-x) :: st))) : Go p l e R s m args below meth c Z n0 Q kc ks h cs sl (mkF m pc Ls (.int x :: st)) := by
  subst hp
  exact go_step K fun T t a k => XS.ineg a C.1 rfl (hb C.2.1 hd) rfl k
theorem go_lneg (C : Ctx p s m meth c Z y bytes maxL ret) {x : Int64} (hd : decode bytes pc = .ok (.lneg, 1))  (hp : pc + 1 = pc') (K : Go p l e R s m args below meth c Z n0 Q kc ks h cs sl (mkF m pc' Ls (.long (-x) :: st))) : Go p l e R s m args below meth c Z n0 Q kc ks h cs sl (mkF m pc Ls (.long x :: st)) := by
  subst hp
  exact go_step K fun T t a k => XS.lneg a C.1 rfl (hb C.2.1 hd) rfl k
theorem go_i2l (C : Ctx p s m meth c Z y bytes maxL ret) {x : Int32} (hd : decode bytes pc = .ok (.i2l, 1))  (hp : pc + 1 = pc') (K : Go p l e R s m args below meth c Z n0 Q kc ks h cs sl (mkF m pc' Ls (.long x.toInt64 :: st))) : Go p l e R s m args below meth c Z n0 Q kc ks h cs sl (mkF m pc Ls (.int x :: st)) := by
  subst hp
  exact go_step K fun T t a k => XS.i2l a C.1 rfl (hb C.2.1 hd) rfl k
theorem go_l2i (C : Ctx p s m meth c Z y bytes maxL ret) {x : Int64} (hd : decode bytes pc = .ok (.l2i, 1))  (hp : pc + 1 = pc') (K : Go p l e R s m args below meth c Z n0 Q kc ks h cs sl (mkF m pc' Ls (.int x.toInt32 :: st))) : Go p l e R s m args below meth c Z n0 Q kc ks h cs sl (mkF m pc Ls (.long x :: st)) := by
  subst hp
  exact go_step K fun T t a k => XS.l2i a C.1 rfl (hb C.2.1 hd) rfl k
theorem go_i2c (C : Ctx p s m meth c Z y bytes maxL ret) {x : Int32} (hd : decode bytes pc = .ok (.i2c, 1))  (hp : pc + 1 = pc') (K : Go p l e R s m args below meth c Z n0 Q kc ks h cs sl (mkF m pc' Ls (.int x.toUInt32.toUInt16.toUInt32.toInt32 :: st))) : Go p l e R s m args below meth c Z n0 Q kc ks h cs sl (mkF m pc Ls (.int x :: st)) := by
  subst hp
  exact go_step K fun T t a k => XS.i2c a C.1 rfl (hb C.2.1 hd) rfl k
theorem go_i2b (C : Ctx p s m meth c Z y bytes maxL ret) {x : Int32} (hd : decode bytes pc = .ok (.i2b, 1))  (hp : pc + 1 = pc') (K : Go p l e R s m args below meth c Z n0 Q kc ks h cs sl (mkF m pc' Ls (.int x.toInt8.toInt32 :: st))) : Go p l e R s m args below meth c Z n0 Q kc ks h cs sl (mkF m pc Ls (.int x :: st)) := by
  subst hp
  exact go_step K fun T t a k => XS.i2b a C.1 rfl (hb C.2.1 hd) rfl k
theorem go_dup (C : Ctx p s m meth c Z y bytes maxL ret) {v : Value} (hd : decode bytes pc = .ok (.dup, 1)) (hv : v.category = 1) (hp : pc + 1 = pc') (K : Go p l e R s m args below meth c Z n0 Q kc ks h cs sl (mkF m pc' Ls (v :: v :: st))) : Go p l e R s m args below meth c Z n0 Q kc ks h cs sl (mkF m pc Ls (v :: st)) := by
  subst hp
  exact go_step K fun T t a k => XS.dup a C.1 rfl (hb C.2.1 hd) rfl hv k
theorem go_dupX1 (C : Ctx p s m meth c Z y bytes maxL ret) {v w : Value} (hd : decode bytes pc = .ok (.dup_x1, 1)) (hv : v.category = 1) (hw : w.category = 1) (hp : pc + 1 = pc') (K : Go p l e R s m args below meth c Z n0 Q kc ks h cs sl (mkF m pc' Ls (v :: w :: v :: st))) : Go p l e R s m args below meth c Z n0 Q kc ks h cs sl (mkF m pc Ls (v :: w :: st)) := by
  subst hp
  exact go_step K fun T t a k => XS.dupX1 a C.1 rfl (hb C.2.1 hd) rfl hv hw k
theorem go_dup2 (C : Ctx p s m meth c Z y bytes maxL ret) {v w : Value} (hd : decode bytes pc = .ok (.dup2, 1)) (hv : v.category = 1) (hw : w.category = 1) (hp : pc + 1 = pc') (K : Go p l e R s m args below meth c Z n0 Q kc ks h cs sl (mkF m pc' Ls (v :: w :: v :: w :: st))) : Go p l e R s m args below meth c Z n0 Q kc ks h cs sl (mkF m pc Ls (v :: w :: st)) := by
  subst hp
  exact go_step K fun T t a k => XT.dup2 a C.1 rfl (hb C.2.1 hd) rfl hv hw k
theorem go_dup2L (C : Ctx p s m meth c Z y bytes maxL ret) {x : Int64} (hd : decode bytes pc = .ok (.dup2, 1))  (hp : pc + 1 = pc') (K : Go p l e R s m args below meth c Z n0 Q kc ks h cs sl (mkF m pc' Ls (.long x :: .long x :: st))) : Go p l e R s m args below meth c Z n0 Q kc ks h cs sl (mkF m pc Ls (.long x :: st)) := by
  subst hp
  exact go_step K fun T t a k => XT.dup2L a C.1 rfl (hb C.2.1 hd) rfl k
theorem go_pop (C : Ctx p s m meth c Z y bytes maxL ret) {v : Value} (hd : decode bytes pc = .ok (.pop, 1)) (hv : v.category = 1) (hp : pc + 1 = pc') (K : Go p l e R s m args below meth c Z n0 Q kc ks h cs sl (mkF m pc' Ls (st))) : Go p l e R s m args below meth c Z n0 Q kc ks h cs sl (mkF m pc Ls (v :: st)) := by
  subst hp
  exact go_step K fun T t a k => XS.pop a C.1 rfl (hb C.2.1 hd) rfl hv k
theorem go_goto (C : Ctx p s m meth c Z y bytes maxL ret)  {o : Int} (hd : decode bytes pc = .ok (.goto o, 3))  (ho : 0 ≤ (pc : Int) + o) (hp : ((pc : Int) + o).toNat = pc') (K : Go p l e R s m args below meth c Z n0 Q kc ks h cs sl (mkF m pc' Ls st)) : Go p l e R s m args below meth c Z n0 Q kc ks h cs sl (mkF m pc Ls (st)) :=
  go_step K fun T t a k => XS.goto a C.1 rfl rfl (hb C.2.1 hd) ho hp k
theorem go_ifYes (C : Ctx p s m meth c Z y bytes maxL ret) {cd : ClassFile.Cond} {x : Int32} {o : Int} (hd : decode bytes pc = .ok (.ifCond cd o, 3)) (hc : ifCond.holds cd x = true) (ho : 0 ≤ (pc : Int) + o) (hp : ((pc : Int) + o).toNat = pc') (K : Go p l e R s m args below meth c Z n0 Q kc ks h cs sl (mkF m pc' Ls st)) : Go p l e R s m args below meth c Z n0 Q kc ks h cs sl (mkF m pc Ls (.int x :: st)) :=
  go_step K fun T t a k => XS.ifYes a C.1 rfl rfl (hb C.2.1 hd) rfl hc ho hp k
theorem go_ifNo (C : Ctx p s m meth c Z y bytes maxL ret) {cd : ClassFile.Cond} {x : Int32} {o : Int} (hd : decode bytes pc = .ok (.ifCond cd o, 3)) (hc : ifCond.holds cd x = false) (hp : pc + 3 = pc') (K : Go p l e R s m args below meth c Z n0 Q kc ks h cs sl (mkF m pc' Ls st)) : Go p l e R s m args below meth c Z n0 Q kc ks h cs sl (mkF m pc Ls (.int x :: st)) := by
  subst hp
  exact go_step K fun T t a k => XS.ifNo a C.1 rfl (hb C.2.1 hd) rfl hc k
theorem go_icmpYes (C : Ctx p s m meth c Z y bytes maxL ret) {cd : ClassFile.Cond} {x y' : Int32} {o : Int} (hd : decode bytes pc = .ok (.if_icmp cd o, 3)) (hc : if_icmp.holds cd x y' = true) (ho : 0 ≤ (pc : Int) + o) (hp : ((pc : Int) + o).toNat = pc') (K : Go p l e R s m args below meth c Z n0 Q kc ks h cs sl (mkF m pc' Ls st)) : Go p l e R s m args below meth c Z n0 Q kc ks h cs sl (mkF m pc Ls (.int y' :: .int x :: st)) :=
  go_step K fun T t a k => XS.icmpYes a C.1 rfl rfl (hb C.2.1 hd) rfl hc ho hp k
theorem go_icmpNo (C : Ctx p s m meth c Z y bytes maxL ret) {cd : ClassFile.Cond} {x y' : Int32} {o : Int} (hd : decode bytes pc = .ok (.if_icmp cd o, 3)) (hc : if_icmp.holds cd x y' = false) (hp : pc + 3 = pc') (K : Go p l e R s m args below meth c Z n0 Q kc ks h cs sl (mkF m pc' Ls st)) : Go p l e R s m args below meth c Z n0 Q kc ks h cs sl (mkF m pc Ls (.int y' :: .int x :: st)) := by
  subst hp
  exact go_step K fun T t a k => XS.icmpNo a C.1 rfl (hb C.2.1 hd) rfl hc k
theorem go_ifnullYes (C : Ctx p s m meth c Z y bytes maxL ret)  {o : Int} (hd : decode bytes pc = .ok (.ifnull o, 3))  (ho : 0 ≤ (pc : Int) + o) (hp : ((pc : Int) + o).toNat = pc') (K : Go p l e R s m args below meth c Z n0 Q kc ks h cs sl (mkF m pc' Ls st)) : Go p l e R s m args below meth c Z n0 Q kc ks h cs sl (mkF m pc Ls (.null :: st)) :=
  go_step K fun T t a k => XS.ifnullYes a C.1 rfl rfl (hb C.2.1 hd) rfl ho hp k
theorem go_ifnullNo (C : Ctx p s m meth c Z y bytes maxL ret) {b : Addr} {o : Int} (hd : decode bytes pc = .ok (.ifnull o, 3))  (hp : pc + 3 = pc') (K : Go p l e R s m args below meth c Z n0 Q kc ks h cs sl (mkF m pc' Ls st)) : Go p l e R s m args below meth c Z n0 Q kc ks h cs sl (mkF m pc Ls (.ref b :: st)) := by
  subst hp
  exact go_step K fun T t a k => XS.ifnullNo a C.1 rfl (hb C.2.1 hd) rfl k
theorem go_ifnonnullYes (C : Ctx p s m meth c Z y bytes maxL ret) {b : Addr} {o : Int} (hd : decode bytes pc = .ok (.ifnonnull o, 3))  (ho : 0 ≤ (pc : Int) + o) (hp : ((pc : Int) + o).toNat = pc') (K : Go p l e R s m args below meth c Z n0 Q kc ks h cs sl (mkF m pc' Ls st)) : Go p l e R s m args below meth c Z n0 Q kc ks h cs sl (mkF m pc Ls (.ref b :: st)) :=
  go_step K fun T t a k => XS.ifnonnullYes a C.1 rfl rfl (hb C.2.1 hd) rfl ho hp k
theorem go_ifnonnullNo (C : Ctx p s m meth c Z y bytes maxL ret)  {o : Int} (hd : decode bytes pc = .ok (.ifnonnull o, 3))  (hp : pc + 3 = pc') (K : Go p l e R s m args below meth c Z n0 Q kc ks h cs sl (mkF m pc' Ls st)) : Go p l e R s m args below meth c Z n0 Q kc ks h cs sl (mkF m pc Ls (.null :: st)) := by
  subst hp
  exact go_step K fun T t a k => XS.ifnonnullNo a C.1 rfl (hb C.2.1 hd) rfl k
theorem go_acmpYes (C : Ctx p s m meth c Z y bytes maxL ret) {cd : ClassFile.ACond} {v w : Value} {o : Int} (hd : decode bytes pc = .ok (.if_acmp cd o, 3)) (hv : v.isRef = true) (hw : w.isRef = true) (hc : XT.acmp cd v w = true) (ho : 0 ≤ (pc : Int) + o) (hp : ((pc : Int) + o).toNat = pc') (K : Go p l e R s m args below meth c Z n0 Q kc ks h cs sl (mkF m pc' Ls st)) : Go p l e R s m args below meth c Z n0 Q kc ks h cs sl (mkF m pc Ls (w :: v :: st)) :=
  go_step K fun T t a k => XT.acmpYes a C.1 rfl rfl (hb C.2.1 hd) rfl hv hw hc ho hp k
theorem go_acmpNo (C : Ctx p s m meth c Z y bytes maxL ret) {cd : ClassFile.ACond} {v w : Value} {o : Int} (hd : decode bytes pc = .ok (.if_acmp cd o, 3)) (hv : v.isRef = true) (hw : w.isRef = true) (hc : XT.acmp cd v w = false) (hp : pc + 3 = pc') (K : Go p l e R s m args below meth c Z n0 Q kc ks h cs sl (mkF m pc' Ls st)) : Go p l e R s m args below meth c Z n0 Q kc ks h cs sl (mkF m pc Ls (w :: v :: st)) := by
  subst hp
  exact go_step K fun T t a k => XT.acmpNo a C.1 rfl (hb C.2.1 hd) rfl hv hw hc k
theorem go_tswIn (C : Ctx p s m meth c Z y bytes maxL ret) {dflt low high : Int} {offs : Array Int} {len : Nat} {o : Int} {i : Int32} (hd : decode bytes pc = .ok (.tableswitch dflt low high offs, len)) (hin : ¬ (i.toInt < low ∨ i.toInt > high)) (hoff : offs[(i.toInt - low).toNat]? = some o) (ho : 0 ≤ (pc : Int) + o) (hp : ((pc : Int) + o).toNat = pc') (K : Go p l e R s m args below meth c Z n0 Q kc ks h cs sl (mkF m pc' Ls st)) : Go p l e R s m args below meth c Z n0 Q kc ks h cs sl (mkF m pc Ls (.int i :: st)) :=
  go_step K fun T t a k => XS.tswIn a C.1 rfl rfl (hb C.2.1 hd) rfl hin hoff ho hp k
theorem go_ldcInt (C : Ctx p s m meth c Z y bytes maxL ret) {index : Nat} {v : Int32} (w : (Jvm.Cond.constant y.cls index v).before a0 Z = true) (hd : decode bytes pc = .ok (.ldc index, 2)) (hp : pc + 2 = pc') (K : Go p l e R s m args below meth c Z n0 Q kc ks h cs sl (mkF m pc' Ls (.int v :: st))) : Go p l e R s m args below meth c Z n0 Q kc ks h cs sl (mkF m pc Ls st) := by
  subst hp
  exact go_stepX K fun T t L X eT k => X.ldcInt C.1 C.2.2.2.2.2.2.1 (mvT C.2.2.2.2.2.1 w) (g := mkF m pc Ls st) rfl (hb C.2.1 hd) t k
theorem go_ldcwInt (C : Ctx p s m meth c Z y bytes maxL ret) {index : Nat} {v : Int32} (w : (Jvm.Cond.constant y.cls index v).before a0 Z = true) (hd : decode bytes pc = .ok (.ldc_w index, 3)) (hp : pc + 3 = pc') (K : Go p l e R s m args below meth c Z n0 Q kc ks h cs sl (mkF m pc' Ls (.int v :: st))) : Go p l e R s m args below meth c Z n0 Q kc ks h cs sl (mkF m pc Ls st) := by
  subst hp
  exact go_stepX K fun T t L X eT k => X.ldcwInt C.1 C.2.2.2.2.2.2.1 (mvT C.2.2.2.2.2.1 w) (g := mkF m pc Ls st) rfl (hb C.2.1 hd) t k
theorem go_ldcLong (C : Ctx p s m meth c Z y bytes maxL ret) {index : Nat} {v : Int64} (w : (Jvm.Cond.constantLong y.cls index v).before a0 Z = true) (hd : decode bytes pc = .ok (.ldc2_w index, 3)) (hp : pc + 3 = pc') (K : Go p l e R s m args below meth c Z n0 Q kc ks h cs sl (mkF m pc' Ls (.long v :: st))) : Go p l e R s m args below meth c Z n0 Q kc ks h cs sl (mkF m pc Ls st) := by
  subst hp
  exact go_stepX K fun T t L X eT k => X.ldc2Long C.1 C.2.2.2.2.2.2.1 (mvT C.2.2.2.2.2.1 w) (g := mkF m pc Ls st) rfl (hb C.2.1 hd) t k
theorem go_getF (C : Ctx p s m meth c Z y bytes maxL ret) {R0 O n d host : String} {index : Nat} {a : Addr} {v : Value} (w : (Jvm.Cond.fieldLink y.cls index R0 n d).before a0 Z = true ∨ (Jvm.Cond.fieldLinkNest y.cls index R0 n d host).before a0 Z = true) (via : Via Z R0 O n d) (F : Fld Z h a O n d v) (hd : decode bytes pc = .ok (.getfield index, 3)) (hp : pc + 3 = pc') (K : Go p l e R s m args below meth c Z n0 Q kc ks h cs sl (mkF m pc' Ls (v :: st))) : Go p l e R s m args below meth c Z n0 Q kc ks h cs sl (mkF m pc Ls (.ref a :: st)) := by
  subst hp
  exact go_stepT K fun T L X eT => getF X C.1 C.2.2.2.2.2.1 C.2.2.2.2.2.2.1 w via eT F (g := mkF m pc Ls (.ref a :: st)) rfl rfl (hb C.2.1 hd)
theorem go_getS (C : Ctx p s m meth c Z y bytes maxL ret) {R0 O n d host : String} {index : Nat} {v : Value} (w : (Jvm.Cond.fieldLink y.cls index R0 n d).before a0 Z = true ∨ (Jvm.Cond.fieldLinkNest y.cls index R0 n d host).before a0 Z = true) (via : Via Z R0 O n d) (F : Sta Z h O n d v) (hd : decode bytes pc = .ok (.getstatic index, 3)) (hp : pc + 3 = pc') (K : Go p l e R s m args below meth c Z n0 Q kc ks h cs sl (mkF m pc' Ls (v :: st))) : Go p l e R s m args below meth c Z n0 Q kc ks h cs sl (mkF m pc Ls st) := by
  subst hp
  exact go_stepT K fun T L X eT => getS2 X C.1 C.2.2.2.2.2.1 C.2.2.2.2.2.2.1 w via eT F (g := mkF m pc Ls st) rfl (hb C.2.1 hd)
theorem go_putF (C : Ctx p s m meth c Z y bytes maxL ret) {R0 O n d host K0 : String} {index kk : Nat} {ty : FieldType} {a : Addr} {v old : Value} (w : (Jvm.Cond.fieldLink y.cls index R0 n d).before a0 Z = true ∨ (Jvm.Cond.fieldLinkNest y.cls index R0 n d host).before a0 Z = true) (via : Via Z R0 O n d) (F : Fld Z h a O n d old) (E : Exa Z h a K0) (L : (Jvm.Cond.lays K0 O n d).before a0 Z = true ∨ ((Jvm.Cond.laysFinal K0 O n d).before a0 Z = true ∧ y.cls = O ∧ y.name = "<init>")) (wi : (Jvm.Cond.instantiable K0 kk).before a0 Z = true)
    (hty : parseFieldDescriptor d = some ty) (hn : narrow ty v = v) (hf : fits ty v = true) (hd : decode bytes pc = .ok (.putfield index, 3)) (hp : pc + 3 = pc') (ha : n0 ≤ a) (K : ∀ h', Wr h h' a (Jvm.RoadKit.slotOf Z O n d) v → Fld Z h' a O n d v → Go p l e R s m args below meth c Z n0 Q kc ks h' cs sl (mkF m pc' Ls st)) : Go p l e R s m args below meth c Z n0 Q kc ks h cs sl (mkF m pc Ls (v :: .ref a :: st)) := fun T L0 hL O X eT => by
  subst hp
  obtain ⟨T', h', X', e', W, hs⟩ := putF X C.1 C.2.2.2.2.2.1 C.2.2.2.2.2.2.1 w via eT F E (L.imp id fun q => ⟨q.1, q.2.1, C.2.2.2.2.2.2.2.trans q.2.2⟩) wi hty hn hf (g := mkF m pc Ls (v :: .ref a :: st)) rfl rfl (hb C.2.1 hd)
  obtain ⟨U, v, L', h1, r⟩ := K h' W (F.same W) T' _ (Fr.snoc X' hL ha) (O.wr W ha) X' e'
  exact ⟨U, v, L', hs U h1, r⟩
theorem go_putFN (C : Ctx p s m meth c Z y bytes maxL ret) {R0 O n d K0 : String} {index kk : Nat} {ty : FieldType} {a : Addr} {v v' old : Value} (w : (Jvm.Cond.fieldLink y.cls index R0 n d).before a0 Z = true) (via : Via Z R0 O n d) (F : Fld Z h a O n d old) (E : Exa Z h a K0) (L : (Jvm.Cond.lays K0 O n d).before a0 Z = true ∨ ((Jvm.Cond.laysFinal K0 O n d).before a0 Z = true ∧ y.cls = O ∧ y.name = "<init>")) (wi : (Jvm.Cond.instantiable K0 kk).before a0 Z = true)
    (hty : parseFieldDescriptor d = some ty) (hn : narrow ty v = v') (hf : fits ty v' = true) (hd : decode bytes pc = .ok (.putfield index, 3)) (hp : pc + 3 = pc') (ha : n0 ≤ a) (K : ∀ h', Wr h h' a (Jvm.RoadKit.slotOf Z O n d) v' → Fld Z h' a O n d v' → Go p l e R s m args below meth c Z n0 Q kc ks h' cs sl (mkF m pc' Ls st)) : Go p l e R s m args below meth c Z n0 Q kc ks h cs sl (mkF m pc Ls (v :: .ref a :: st)) := fun T L0 hL O X eT => by
  subst hp
  obtain ⟨T', h', X', e', W, hs⟩ := putFN X C.1 C.2.2.2.2.2.1 C.2.2.2.2.2.2.1 w via eT F E (L.imp id fun q => ⟨q.1, q.2.1, C.2.2.2.2.2.2.2.trans q.2.2⟩) wi hty hn hf (g := mkF m pc Ls (v :: .ref a :: st)) rfl rfl (hb C.2.1 hd)
  obtain ⟨U, v, L', h1, r⟩ := K h' W (F.same W) T' _ (Fr.snoc X' hL ha) (O.wr W ha) X' e'
  exact ⟨U, v, L', hs U h1, r⟩
theorem go_new (C : Ctx p s m meth c Z y bytes maxL ret) {K0 : String} {index n : Nat} (w : (Jvm.Cond.classLink y.cls index K0).before a0 Z = true) (wi : (Jvm.Cond.instantiable K0 n).before a0 Z = true) (wz : (Jvm.Cond.initialized K0).before a0 Z = true) (hd : decode bytes pc = .ok (.new index, 3)) (hp : pc + 3 = pc') (hc : cs + 1 ≤ R.cells) (hl : sl + n ≤ R.slots)
    (K : ∀ h' a, a = h.size → n0 ≤ a → Ext h h' → Exa Z h' a K0 → (∀ {O nm d : String} {ty : FieldType}, Laid Z a0 K0 O nm d → parseFieldDescriptor d = some ty → Fld Z h' a O nm d (defaultValue ty)) → Go p l e R s m args below meth c Z n0 Q kc ks h' (cs + 1) (sl + n) (mkF m pc' Ls (.ref a :: st))) : Go p l e R s m args below meth c Z n0 Q kc ks h cs sl (mkF m pc Ls st) := fun T L0 hL O X eT => by
  subst hp
  obtain ⟨T', h', X', e', E, A, D, -, hs⟩ := newO X C.1 C.2.2.2.2.2.1 C.2.2.2.2.2.2.1 w wi wz eT (g := mkF m pc Ls st) rfl (hb C.2.1 hd) hc hl
  obtain ⟨U, v, L', h1, r⟩ := K h' h.size rfl (O.1 ▸ O.2.1) E A D T' _ hL (O.ext E) X' e'
  exact ⟨U, v, L', hs U h1, r⟩
theorem go_newP (C : Ctx p s m meth c Z y bytes maxL ret) {aty : ArrayType} {n : Int32} {cap : Nat} (w : (Jvm.Cond.arrayClass (newarray.typeOf aty)).before a0 Z = true) (hd : decode bytes pc = .ok (.newarray aty, 2)) (hp : pc + 2 = pc') (hn : ¬ n < 0) (hcap : n.toNatClampNeg ≤ cap) (hb' : cap * 8 ≤ 536870912) (hc : cs + 1 ≤ R.cells) (hl : sl + cap ≤ R.slots)
    (K : ∀ h' a k, a = h.size → n0 ≤ a → Ext h h' → Arr Z h' a (newA k (newarray.typeOf aty) n) (newarray.typeOf aty) → Go p l e R s m args below meth c Z n0 Q kc ks h' (cs + 1) (sl + cap) (mkF m pc' Ls (.ref a :: st))) : Go p l e R s m args below meth c Z n0 Q kc ks h cs sl (mkF m pc Ls (.int n :: st)) := fun T L0 hL O X eT => by
  subst hp
  obtain ⟨T', h', k, X', e', E, A, hs⟩ := newP X C.1 C.2.2.2.2.2.1 w eT (g := mkF m pc Ls (.int n :: st)) rfl (hb C.2.1 hd) rfl hn hcap hb' hc hl
  obtain ⟨U, v, L', h1, r⟩ := K h' h.size k rfl (O.1 ▸ O.2.1) E A T' _ hL (O.ext E) X' e'
  exact ⟨U, v, L', hs U h1, r⟩
theorem go_newR (C : Ctx p s m meth c Z y bytes maxL ret) {K0 : String} {index : Nat} {n : Int32} {cap : Nat} (w1 : (Jvm.Cond.classLink y.cls index K0).before a0 Z = true) (w2 : (Jvm.Cond.arrayOver (.object K0)).before a0 Z = true) (hd : decode bytes pc = .ok (.anewarray index, 3)) (hp : pc + 3 = pc') (hn : ¬ n < 0) (hcap : n.toNatClampNeg ≤ cap) (hb' : cap * 8 ≤ 536870912) (hc : cs + 1 ≤ R.cells) (hl : sl + cap ≤ R.slots)
    (K : ∀ h' a k, a = h.size → n0 ≤ a → Ext h h' → Arr Z h' a (newA k (.object K0) n) (.object K0) → Ovr Z k K0 → Go p l e R s m args below meth c Z n0 Q kc ks h' (cs + 1) (sl + cap) (mkF m pc' Ls (.ref a :: st))) : Go p l e R s m args below meth c Z n0 Q kc ks h cs sl (mkF m pc Ls (.int n :: st)) := fun T L0 hL O X eT => by
  subst hp
  obtain ⟨T', h', k, X', e', E, A, V, hs⟩ := newR X C.1 C.2.2.2.2.2.1 C.2.2.2.2.2.2.1 w1 w2 eT (g := mkF m pc Ls (.int n :: st)) rfl (hb C.2.1 hd) rfl hn hcap hb' hc hl
  obtain ⟨U, v, L', h1, r⟩ := K h' h.size k rfl (O.1 ▸ O.2.1) E A V T' _ hL (O.ext E) X' e'
  exact ⟨U, v, L', hs U h1, r⟩
theorem go_stI (C : Ctx p s m meth c Z y bytes maxL ret) {a : Addr} {cl : Cell} {j : Int32} {x : Int32} (A : Arr Z h a cl .int) (hj : ¬ (j < 0 ∨ cl.slots.size ≤ j.toNatClampNeg)) (hd : decode bytes pc = .ok (.iastore, 1)) (hp : pc + 1 = pc') (ha : n0 ≤ a)
    (K : ∀ h', Wr h h' a j.toNatClampNeg (.int x) → Arr Z h' a (cl.setSlot j.toNatClampNeg (.int x)) .int → Go p l e R s m args below meth c Z n0 Q kc ks h' cs sl (mkF m pc' Ls st)) : Go p l e R s m args below meth c Z n0 Q kc ks h cs sl (mkF m pc Ls (.int x :: .int j :: .ref a :: st)) := fun T L0 hL O X eT => by
  subst hp
  obtain ⟨T', h', X', e', W, hs⟩ := stI X C.1 C.2.2.2.2.2.1 eT A hj (g := mkF m pc Ls (.int x :: .int j :: .ref a :: st)) rfl rfl (hb C.2.1 hd)
  obtain ⟨U, v, L', h1, r⟩ := K h' W (A.same W) T' _ (Fr.snoc X' hL ha) (O.wr W ha) X' e'
  exact ⟨U, v, L', hs U h1, r⟩
theorem go_stJ (C : Ctx p s m meth c Z y bytes maxL ret) {a : Addr} {cl : Cell} {j : Int32} {x : Int64} (A : Arr Z h a cl .long) (hj : ¬ (j < 0 ∨ cl.slots.size ≤ j.toNatClampNeg)) (hd : decode bytes pc = .ok (.lastore, 1)) (hp : pc + 1 = pc') (ha : n0 ≤ a)
    (K : ∀ h', Wr h h' a j.toNatClampNeg (.long x) → Arr Z h' a (cl.setSlot j.toNatClampNeg (.long x)) .long → Go p l e R s m args below meth c Z n0 Q kc ks h' cs sl (mkF m pc' Ls st)) : Go p l e R s m args below meth c Z n0 Q kc ks h cs sl (mkF m pc Ls (.long x :: .int j :: .ref a :: st)) := fun T L0 hL O X eT => by
  subst hp
  obtain ⟨T', h', X', e', W, hs⟩ := stJ X C.1 C.2.2.2.2.2.1 eT A hj (g := mkF m pc Ls (.long x :: .int j :: .ref a :: st)) rfl rfl (hb C.2.1 hd)
  obtain ⟨U, v, L', h1, r⟩ := K h' W (A.same W) T' _ (Fr.snoc X' hL ha) (O.wr W ha) X' e'
  exact ⟨U, v, L', hs U h1, r⟩
theorem go_stC (C : Ctx p s m meth c Z y bytes maxL ret) {a : Addr} {cl : Cell} {j : Int32} {x : Int32} (A : Arr Z h a cl .char) (hj : ¬ (j < 0 ∨ cl.slots.size ≤ j.toNatClampNeg)) (hd : decode bytes pc = .ok (.castore, 1)) (hp : pc + 1 = pc') (ha : n0 ≤ a)
    (K : ∀ h', Wr h h' a j.toNatClampNeg (.int (nar .char x)) → Arr Z h' a (cl.setSlot j.toNatClampNeg (.int (nar .char x))) .char → Go p l e R s m args below meth c Z n0 Q kc ks h' cs sl (mkF m pc' Ls st)) : Go p l e R s m args below meth c Z n0 Q kc ks h cs sl (mkF m pc Ls (.int x :: .int j :: .ref a :: st)) := fun T L0 hL O X eT => by
  subst hp
  obtain ⟨T', h', X', e', W, hs⟩ := stC X C.1 C.2.2.2.2.2.1 eT A hj (g := mkF m pc Ls (.int x :: .int j :: .ref a :: st)) rfl rfl (hb C.2.1 hd)
  obtain ⟨U, v, L', h1, r⟩ := K h' W (A.same W) T' _ (Fr.snoc X' hL ha) (O.wr W ha) X' e'
  exact ⟨U, v, L', hs U h1, r⟩
theorem go_stB (C : Ctx p s m meth c Z y bytes maxL ret) {a : Addr} {cl : Cell} {j : Int32} {x : Int32} (A : Arr Z h a cl .byte) (hj : ¬ (j < 0 ∨ cl.slots.size ≤ j.toNatClampNeg)) (hd : decode bytes pc = .ok (.bastore, 1)) (hp : pc + 1 = pc') (ha : n0 ≤ a)
    (K : ∀ h', Wr h h' a j.toNatClampNeg (.int (nar .byte x)) → Arr Z h' a (cl.setSlot j.toNatClampNeg (.int (nar .byte x))) .byte → Go p l e R s m args below meth c Z n0 Q kc ks h' cs sl (mkF m pc' Ls st)) : Go p l e R s m args below meth c Z n0 Q kc ks h cs sl (mkF m pc Ls (.int x :: .int j :: .ref a :: st)) := fun T L0 hL O X eT => by
  subst hp
  obtain ⟨T', h', X', e', W, hs⟩ := stB X C.1 C.2.2.2.2.2.1 eT A hj (g := mkF m pc Ls (.int x :: .int j :: .ref a :: st)) rfl rfl (hb C.2.1 hd)
  obtain ⟨U, v, L', h1, r⟩ := K h' W (A.same W) T' _ (Fr.snoc X' hL ha) (O.wr W ha) X' e'
  exact ⟨U, v, L', hs U h1, r⟩
theorem go_stZ (C : Ctx p s m meth c Z y bytes maxL ret) {a : Addr} {cl : Cell} {j : Int32} {x : Int32} (A : Arr Z h a cl .boolean) (hj : ¬ (j < 0 ∨ cl.slots.size ≤ j.toNatClampNeg)) (hd : decode bytes pc = .ok (.bastore, 1)) (hp : pc + 1 = pc') (ha : n0 ≤ a)
    (K : ∀ h', Wr h h' a j.toNatClampNeg (.int (nar .boolean x)) → Arr Z h' a (cl.setSlot j.toNatClampNeg (.int (nar .boolean x))) .boolean → Go p l e R s m args below meth c Z n0 Q kc ks h' cs sl (mkF m pc' Ls st)) : Go p l e R s m args below meth c Z n0 Q kc ks h cs sl (mkF m pc Ls (.int x :: .int j :: .ref a :: st)) := fun T L0 hL O X eT => by
  subst hp
  obtain ⟨T', h', X', e', W, hs⟩ := stZ X C.1 C.2.2.2.2.2.1 eT A hj (g := mkF m pc Ls (.int x :: .int j :: .ref a :: st)) rfl rfl (hb C.2.1 hd)
  obtain ⟨U, v, L', h1, r⟩ := K h' W (A.same W) T' _ (Fr.snoc X' hL ha) (O.wr W ha) X' e'
  exact ⟨U, v, L', hs U h1, r⟩
theorem go_stR (C : Ctx p s m meth c Z y bytes maxL ret) {a : Addr} {cl : Cell} {j : Int32} {ty : FieldType} {w : Value} (A : Arr Z h a cl ty) (hj : ¬ (j < 0 ∨ cl.slots.size ≤ j.toNatClampNeg)) (hty : ty.isReference = true) (F : Sto Z h a w) (hd : decode bytes pc = .ok (.aastore, 1)) (hp : pc + 1 = pc') (ha : n0 ≤ a)
    (K : ∀ h', Wr h h' a j.toNatClampNeg w → Arr Z h' a (cl.setSlot j.toNatClampNeg w) ty → Go p l e R s m args below meth c Z n0 Q kc ks h' cs sl (mkF m pc' Ls st)) : Go p l e R s m args below meth c Z n0 Q kc ks h cs sl (mkF m pc Ls (w :: .int j :: .ref a :: st)) := fun T L0 hL O X eT => by
  subst hp
  obtain ⟨T', h', X', e', W, hs⟩ := stR X C.1 C.2.2.2.2.2.1 eT A hj hty F (g := mkF m pc Ls (w :: .int j :: .ref a :: st)) rfl rfl (hb C.2.1 hd)
  obtain ⟨U, v, L', h1, r⟩ := K h' W (A.same W) T' _ (Fr.snoc X' hL ha) (O.wr W ha) X' e'
  exact ⟨U, v, L', hs U h1, r⟩
theorem go_arraylength (C : Ctx p s m meth c Z y bytes maxL ret) {a : Addr} {cl : Cell} {ty : FieldType} {z : Int32} (A : Arr Z h a cl ty) (hz : cl.slots.size.toInt32 = z) (hd : decode bytes pc = .ok (.arraylength, 1)) (hp : pc + 1 = pc') (K : Go p l e R s m args below meth c Z n0 Q kc ks h cs sl (mkF m pc' Ls (.int z :: st))) : Go p l e R s m args below meth c Z n0 Q kc ks h cs sl (mkF m pc Ls (.ref a :: st)) := by
  subst hp hz
  exact go_stepX K fun T t L X eT k => X.arraylength C.1 (by rw [eT]; exact A.1) (State.isArrayOf_alike C.2.2.2.2.2.1.alike A.2.1) (g := mkF m pc Ls (.ref a :: st)) rfl rfl (hb C.2.1 hd) t k
theorem go_aaload (C : Ctx p s m meth c Z y bytes maxL ret) {a : Addr} {cl : Cell} {j : Int32} {v : Value} {ty : FieldType} (A : Arr Z h a cl ty) (hty : ty.isReference = true) (hin : ¬ (j < 0 ∨ cl.slots.size ≤ j.toNatClampNeg)) (hv : cl.slots[j.toNatClampNeg]? = some v) (hd : decode bytes pc = .ok (.aaload, 1)) (hp : pc + 1 = pc') (K : Go p l e R s m args below meth c Z n0 Q kc ks h cs sl (mkF m pc' Ls (v :: st))) : Go p l e R s m args below meth c Z n0 Q kc ks h cs sl (mkF m pc Ls (.int j :: .ref a :: st)) := by
  subst hp
  exact go_stepX K fun T t L X eT k => X.aaload C.1 (by rw [eT]; exact A.1) (State.isArrayOf_alike C.2.2.2.2.2.1.alike A.2.1) hty A.2.2 hin hv (g := mkF m pc Ls (.int j :: .ref a :: st)) rfl rfl (hb C.2.1 hd) t k
theorem go_iaload (C : Ctx p s m meth c Z y bytes maxL ret) {a : Addr} {cl : Cell} {j : Int32} {v : Value} (A : Arr Z h a cl .int) (hin : ¬ (j < 0 ∨ cl.slots.size ≤ j.toNatClampNeg)) (hv : cl.slots[j.toNatClampNeg]? = some v) (hd : decode bytes pc = .ok (.iaload, 1)) (hp : pc + 1 = pc') (K : Go p l e R s m args below meth c Z n0 Q kc ks h cs sl (mkF m pc' Ls (v :: st))) : Go p l e R s m args below meth c Z n0 Q kc ks h cs sl (mkF m pc Ls (.int j :: .ref a :: st)) := by
  subst hp
  exact go_stepX K fun T t L X eT k => X.iaload C.1 (by rw [eT]; exact A.1) (State.isArrayOf_alike C.2.2.2.2.2.1.alike A.2.1) A.2.2 hin hv (g := mkF m pc Ls (.int j :: .ref a :: st)) rfl rfl (hb C.2.1 hd) t k
theorem go_laload (C : Ctx p s m meth c Z y bytes maxL ret) {a : Addr} {cl : Cell} {j : Int32} {v : Value} (A : Arr Z h a cl .long) (hin : ¬ (j < 0 ∨ cl.slots.size ≤ j.toNatClampNeg)) (hv : cl.slots[j.toNatClampNeg]? = some v) (hd : decode bytes pc = .ok (.laload, 1)) (hp : pc + 1 = pc') (K : Go p l e R s m args below meth c Z n0 Q kc ks h cs sl (mkF m pc' Ls (v :: st))) : Go p l e R s m args below meth c Z n0 Q kc ks h cs sl (mkF m pc Ls (.int j :: .ref a :: st)) := by
  subst hp
  exact go_stepX K fun T t L X eT k => X.laload C.1 (by rw [eT]; exact A.1) (State.isArrayOf_alike C.2.2.2.2.2.1.alike A.2.1) A.2.2 hin hv (g := mkF m pc Ls (.int j :: .ref a :: st)) rfl rfl (hb C.2.1 hd) t k
theorem go_caload (C : Ctx p s m meth c Z y bytes maxL ret) {a : Addr} {cl : Cell} {j : Int32} {v : Value} (A : Arr Z h a cl .char) (hin : ¬ (j < 0 ∨ cl.slots.size ≤ j.toNatClampNeg)) (hv : cl.slots[j.toNatClampNeg]? = some v) (hd : decode bytes pc = .ok (.caload, 1)) (hp : pc + 1 = pc') (K : Go p l e R s m args below meth c Z n0 Q kc ks h cs sl (mkF m pc' Ls (v :: st))) : Go p l e R s m args below meth c Z n0 Q kc ks h cs sl (mkF m pc Ls (.int j :: .ref a :: st)) := by
  subst hp
  exact go_stepX K fun T t L X eT k => X.caload C.1 (by rw [eT]; exact A.1) (State.isArrayOf_alike C.2.2.2.2.2.1.alike A.2.1) A.2.2 hin hv (g := mkF m pc Ls (.int j :: .ref a :: st)) rfl rfl (hb C.2.1 hd) t k
theorem go_castY (C : Ctx p s m meth c Z y bytes maxL ret) {K0 : String} {index : Nat} {a : Addr} (w : (Jvm.Cond.classLink y.cls index K0).before a0 Z = true) (F : Ins Z h a K0 true) (hd : decode bytes pc = .ok (.checkcast index, 3)) (hp : pc + 3 = pc') (K : Go p l e R s m args below meth c Z n0 Q kc ks h cs sl (mkF m pc' Ls (.ref a :: st))) : Go p l e R s m args below meth c Z n0 Q kc ks h cs sl (mkF m pc Ls (.ref a :: st)) := by
  subst hp
  exact go_stepT K fun T L X eT => castY X C.1 C.2.2.2.2.2.1 C.2.2.2.2.2.2.1 w eT F (g := mkF m pc Ls (.ref a :: st)) rfl rfl (hb C.2.1 hd)
theorem go_castNull (C : Ctx p s m meth c Z y bytes maxL ret) {index : Nat} (hd : decode bytes pc = .ok (.checkcast index, 3)) (hp : pc + 3 = pc') (K : Go p l e R s m args below meth c Z n0 Q kc ks h cs sl (mkF m pc' Ls (.null :: st))) : Go p l e R s m args below meth c Z n0 Q kc ks h cs sl (mkF m pc Ls (.null :: st)) := by
  subst hp
  exact go_stepX K fun T t L X eT k => X.checkcastNull C.1 (g := mkF m pc Ls (.null :: st)) rfl rfl (hb C.2.1 hd) t k
theorem go_instY (C : Ctx p s m meth c Z y bytes maxL ret) {K0 : String} {index : Nat} {a : Addr} (w : (Jvm.Cond.classLink y.cls index K0).before a0 Z = true) (F : Ins Z h a K0 true) (hd : decode bytes pc = .ok (.instanceof index, 3)) (hp : pc + 3 = pc') (K : Go p l e R s m args below meth c Z n0 Q kc ks h cs sl (mkF m pc' Ls (.int 1 :: st))) : Go p l e R s m args below meth c Z n0 Q kc ks h cs sl (mkF m pc Ls (.ref a :: st)) := by
  subst hp
  exact go_stepT K fun T L X eT => instY X C.1 C.2.2.2.2.2.1 C.2.2.2.2.2.2.1 w eT F (g := mkF m pc Ls (.ref a :: st)) rfl rfl (hb C.2.1 hd)
theorem go_instNo (C : Ctx p s m meth c Z y bytes maxL ret) {K0 K1 : String} {index : Nat} {a : Addr} (w : (Jvm.Cond.classLink y.cls index K0).before a0 Z = true) (E : Exa Z h a K1) (F : ∃ c t, Z.vm.findClass K1 = some c ∧ Z.vm.findClass K0 = some t ∧ Z.vm.assignable c t = false) (hd : decode bytes pc = .ok (.instanceof index, 3)) (hp : pc + 3 = pc') (K : Go p l e R s m args below meth c Z n0 Q kc ks h cs sl (mkF m pc' Ls (.int 0 :: st))) : Go p l e R s m args below meth c Z n0 Q kc ks h cs sl (mkF m pc Ls (.ref a :: st)) := by
  subst hp
  exact go_stepT K fun T L X eT => instNo X C.1 C.2.2.2.2.2.1 C.2.2.2.2.2.2.1 w eT E F (g := mkF m pc Ls (.ref a :: st)) rfl rfl (hb C.2.1 hd)
theorem go_initO (C : Ctx p s m meth c Z y bytes maxL ret) {idx : Nat} {a : Addr} (w1 : (Jvm.Cond.methodLink y.cls idx Lib.objectInit).before a0 Z = true) (w2 : (Jvm.Cond.instanceMethod Lib.objectInit).before a0 Z = true) (w3 : (Jvm.Cond.code Lib.objectInit ⟨#[0xb1]⟩ 1 none).before a0 Z = true) (hsz : Ls.size = maxL) (hd : decode bytes pc = .ok (.invokespecial idx, 3)) (hp : pc + 3 = pc') (hf : 1 ≤ R.frames) (hl : (st.map fun v => v.category).sum + 12 ≤ R.locals) (K : Go p l e R s m args below meth c Z n0 Q kc ks h cs sl (mkF m pc' Ls st)) : Go p l e R s m args below meth c Z n0 Q kc ks h cs sl (mkF m pc Ls (.ref a :: st)) := by
  subst hp
  exact go_stepT K fun T L X eT => initO X C.1 C.2.2.2.2.2.1 C.2.2.2.2.2.2.1 w1 w2 w3 eT (g := mkF m pc Ls (.ref a :: st)) rfl (hsz.trans C.2.2.1.symm) rfl (hb C.2.1 hd) hf (W := (st.map fun v => v.category).sum) (by show 2 * 0 + _ ≤ _; omega) hl
theorem go_ret0 (C : Ctx p s m meth c Z y bytes maxL none) (hd : decode bytes pc = .ok (.return_, 1)) (hc : cs ≤ kc) (hs : sl ≤ ks) (q : Q none h) : Go p l e R s m args below meth c Z n0 Q kc ks h cs sl (mkF m pc Ls []) := fun T L hL O X eT => by
  obtain ⟨fs, hr, hrun, hended, hW, hsame⟩ := X.leave (v := none) (fun _ => rfl) C.2.2.2.2.1
  subst eT
  exact ⟨_, _, L, X.returnOut C.1 C.2.2.2.1 (hb C.2.1 hd) hr, hrun, hended, hL, O, hW, hsame.mono hc hs, q⟩
theorem go_retI (C : Ctx p s m meth c Z y bytes maxL (some .int)) {z : Int32} (hd : decode bytes pc = .ok (.ireturn, 1)) (hc : cs ≤ kc) (hs : sl ≤ ks) (q : Q (some (.int z)) h) : Go p l e R s m args below meth c Z n0 Q kc ks h cs sl (mkF m pc Ls (.int z :: st)) := fun T L hL O X eT => by
  obtain ⟨fs, hr, hrun, hended, hW, hsame⟩ := X.leave (v := some (.int z)) (fun h => by rw [C.2.2.2.1] at h; cases h) C.2.2.2.2.1
  subst eT
  exact ⟨_, _, L, retOut X C.1 C.2.2.2.1 rfl (Or.inl ⟨rfl, Or.inl rfl, _, rfl⟩) (hb C.2.1 hd) hr, hrun, hended, hL, O, hW, hsame.mono hc hs, q⟩
theorem go_retL (C : Ctx p s m meth c Z y bytes maxL (some .long)) {z : Int64} (hd : decode bytes pc = .ok (.lreturn, 1)) (hc : cs ≤ kc) (hs : sl ≤ ks) (q : Q (some (.long z)) h) : Go p l e R s m args below meth c Z n0 Q kc ks h cs sl (mkF m pc Ls (.long z :: st)) := fun T L hL O X eT => by
  obtain ⟨fs, hr, hrun, hended, hW, hsame⟩ := X.leave (v := some (.long z)) (fun h => by rw [C.2.2.2.1] at h; cases h) C.2.2.2.2.1
  subst eT
  exact ⟨_, _, L, retOut X C.1 C.2.2.2.1 rfl (Or.inr (Or.inl ⟨rfl, rfl, _, rfl⟩)) (hb C.2.1 hd) hr, hrun, hended, hL, O, hW, hsame.mono hc hs, q⟩
theorem go_retN {t : FieldType} (C : Ctx p s m meth c Z y bytes maxL (some t)) {z z' : Int32} (ht : t = .boolean ∨ t = .byte ∨ t = .char ∨ t = .short) (hz : nar t z = z') (hd : decode bytes pc = .ok (.ireturn, 1)) (hc : cs ≤ kc) (hs : sl ≤ ks) (q : Q (some (.int z')) h) : Go p l e R s m args below meth c Z n0 Q kc ks h cs sl (mkF m pc Ls (.int z :: st)) := fun T L hL O X eT => by
  subst hz
  obtain ⟨fs, hr, hrun, hended, hW, hsame⟩ := X.leave (v := some (.int (nar t z))) (fun h => by rw [C.2.2.2.1] at h; cases h) C.2.2.2.2.1
  subst eT
  exact ⟨_, _, L, retN X C.1 C.2.2.2.1 ht (hb C.2.1 hd) hr, hrun, hended, hL, O, hW, hsame.mono hc hs, q⟩
theorem go_retA {t : FieldType} (C : Ctx p s m meth c Z y bytes maxL (some t)) {w : Value} (ht : t.isReference = true) (hw : w.isRef = true) (hd : decode bytes pc = .ok (.areturn, 1)) (hc : cs ≤ kc) (hs : sl ≤ ks) (q : Q (some w) h) : Go p l e R s m args below meth c Z n0 Q kc ks h cs sl (mkF m pc Ls (w :: st)) := fun T L hL O X eT => by
  obtain ⟨fs, hr, hrun, hended, hW, hsame⟩ := X.leave (v := some w) (fun h => by rw [C.2.2.2.1] at h; cases h) C.2.2.2.2.1
  subst eT
  exact ⟨_, _, L, retOut X C.1 C.2.2.2.1 (by cases t <;> first | (cases ht; done) | (cases w <;> first | rfl | cases hw)) (Or.inr (Or.inr (Or.inr (Or.inr ⟨rfl, ht, hw⟩)))) (hb C.2.1 hd) hr, hrun, hended, hL, O, hW, hsame.mono hc hs, q⟩
theorem go_callS (C : Ctx p s m meth c Z y bytes maxL ret) {y' : MethodName} {bytes' : ByteArray} {maxL' : Nat} {ret' : Option FieldType} {rm' : Room} {as' : Array Value} {Q' : Option Value → Heap → Prop} {index W : Nat} {argsL rest : List Value} {ps : List FieldType} {r' : Option FieldType} (w1 : (Jvm.Cond.methodLink y.cls index y').before a0 Z = true) (w2 : (Jvm.Cond.static y').before a0 Z = true) (M : Met l Z n0 y' bytes' maxL' ret' [] rm' as' h Q') (wc : (Jvm.Cond.code y' bytes' maxL' ret').before a0 Z = true) (wz : (Jvm.Cond.initialized y'.cls).before a0 Z = true) (hy : y'.cls ≠ "java/lang/invoke/MethodHandle" ∧ y'.cls ≠ "java/lang/invoke/VarHandle") (hf : rm'.frames + 1 ≤ R.frames) (hW : (rest.map fun v => v.category).sum ≤ W) (hl : W + (maxL' + 11) + rm'.locals ≤ R.locals) (hc : cs + rm'.cells ≤ R.cells) (hs : sl + rm'.slots ≤ R.slots) (hsz : Ls.size = maxL)  (hlen : parseMethodDescriptor y'.desc = some ⟨ps, r'⟩) (hal : argsL.length = ps.length) (hst : st = argsL.reverse ++ rest) (has : as' = argsL.toArray) (hd : decode bytes pc = .ok (.invokestatic index, 3)) (hp : pc + 3 = pc')
    (K : ∀ v h', Q' v h' → Go p l e R s m args below meth c Z n0 Q kc ks h' (cs + rm'.cells) (sl + rm'.slots) (mkF m pc' Ls (v.toList ++ rest))) : Go p l e R s m args below meth c Z n0 Q kc ks h cs sl (mkF m pc Ls st) := fun T L0 hL O X eT => by
  subst hp has hst
  obtain ⟨v, _, ⟨T1, L1, k1, n1⟩, -, X1, ⟨Lc1, q1, l1, y1, z1⟩, s1⟩ := Jvm.LawKit.callS X C.1 (y := y') C.2.2.2.2.2.2.1 (mvT C.2.2.2.2.2.1 w1) (mvT C.2.2.2.2.2.1 w2) (mvT C.2.2.2.2.2.1 wz) (mvT C.2.2.2.2.2.1 wc) hy (backOf (W := W) (R := R) (p := p) (e := e) (below := below) (args := args) (len := 3) (Q := fun v h L => Fr n0 L ∧ Old Z n0 h ∧ Q' v h) M C.2.2.2.2.2.1 wc wz hf hl) (g := mkF m pc Ls (argsL.reverse ++ rest)) rfl (hsz.trans C.2.2.1.symm) (argsL := argsL) (rest := rest) (lenOf hlen hal) rfl (by show 2 * 0 + _ ≤ _; omega) (hb C.2.1 hd) (fun _ _ => ⟨rfl, eT, hc, hs⟩)
  dsimp only [Pt.U, Pt.locs, Pt.cells, Pt.slots] at X1 l1 y1 z1 s1 q1
  subst l1 y1 z1
  obtain ⟨N, O', q⟩ := q1
  obtain ⟨U, w, L', h1, r⟩ := K v _ q T1 _ (Fr.app hL N) O' X1 rfl
  exact ⟨U, w, L', s1 _ h1, r⟩
theorem go_callC (C : Ctx p s m meth c Z y bytes maxL ret) {y' : MethodName} {bytes' : ByteArray} {maxL' : Nat} {ret' : Option FieldType} {rm' : Room} {as' : Array Value} {Q' : Option Value → Heap → Prop} {index W : Nat} {argsL rest : List Value} {ps : List FieldType} {r' : Option FieldType} (w1 : (Jvm.Cond.methodLink y.cls index y').before a0 Z = true) (w2 : (Jvm.Cond.instanceMethod y').before a0 Z = true) (hin : y'.name = "<init>") (hr0 : ret' = none) (M : Met l Z n0 y' bytes' maxL' ret' [] rm' as' h Q') (wc : (Jvm.Cond.code y' bytes' maxL' ret').before a0 Z = true) (wz : (Jvm.Cond.initialized y'.cls).before a0 Z = true) (hy : y'.cls ≠ "java/lang/invoke/MethodHandle" ∧ y'.cls ≠ "java/lang/invoke/VarHandle") (hf : rm'.frames + 1 ≤ R.frames) (hW : (rest.map fun v => v.category).sum ≤ W) (hl : W + (maxL' + 11) + rm'.locals ≤ R.locals) (hc : cs + rm'.cells ≤ R.cells) (hs : sl + rm'.slots ≤ R.slots) (hsz : Ls.size = maxL) {a : Addr} (hlen : parseMethodDescriptor y'.desc = some ⟨ps, r'⟩) (hal : argsL.length = ps.length) (hst : st = argsL.reverse ++ .ref a :: rest) (has : as' = (.ref a :: argsL).toArray) (hd : decode bytes pc = .ok (.invokespecial index, 3)) (hp : pc + 3 = pc')
    (K : ∀ v h', Q' v h' → Go p l e R s m args below meth c Z n0 Q kc ks h' (cs + rm'.cells) (sl + rm'.slots) (mkF m pc' Ls (v.toList ++ rest))) : Go p l e R s m args below meth c Z n0 Q kc ks h cs sl (mkF m pc Ls st) := fun T L0 hL O X eT => by
  subst hp has hst
  subst hr0
  obtain ⟨v, _, ⟨T1, L1, k1, n1⟩, -, X1, ⟨Lc1, q1, l1, y1, z1⟩, s1⟩ := X.specialBack C.1 (y := y') hin C.2.2.2.2.2.2.1 (mvT C.2.2.2.2.2.1 w1) (mvT C.2.2.2.2.2.1 w2) (mvT C.2.2.2.2.2.1 wc) hy (backOf (W := W) (R := R) (p := p) (e := e) (below := below) (args := args) (len := 3) (Q := fun v h L => Fr n0 L ∧ Old Z n0 h ∧ Q' v h) M C.2.2.2.2.2.1 wc wz hf hl) (g := mkF m pc Ls (argsL.reverse ++ .ref a :: rest)) rfl (hsz.trans C.2.2.1.symm) (Steps.refl _) (a := a) (argsL := argsL) (rest := rest) (lenOf hlen hal) rfl (by show 2 * 0 + _ ≤ _; omega) (hb C.2.1 hd) (fun _ _ => ⟨rfl, eT, hc, hs⟩)
  dsimp only [Pt.U, Pt.locs, Pt.cells, Pt.slots] at X1 l1 y1 z1 s1 q1
  subst l1 y1 z1
  obtain ⟨N, O', q⟩ := q1
  obtain ⟨U, w, L', h1, r⟩ := K v _ q T1 _ (Fr.app hL N) O' X1 rfl
  exact ⟨U, w, L', s1.trans h1, r⟩
theorem go_callV (C : Ctx p s m meth c Z y bytes maxL ret) {y' : MethodName} {bytes' : ByteArray} {maxL' : Nat} {ret' : Option FieldType} {rm' : Room} {as' : Array Value} {Q' : Option Value → Heap → Prop} {index W : Nat} {argsL rest : List Value} {ps : List FieldType} {r' : Option FieldType} (w1 : (Jvm.Cond.methodLink y.cls index y').before a0 Z = true) (w2 : (Jvm.Cond.declares y').before a0 Z = true) {K0 : String} (w3 : (Jvm.Cond.selects K0 y' y').before a0 Z = true) (w4 : (Jvm.Cond.instanceMethod y').before a0 Z = true) (M : Met l Z n0 y' bytes' maxL' ret' [] rm' as' h Q') (wc : (Jvm.Cond.code y' bytes' maxL' ret').before a0 Z = true) (wz : (Jvm.Cond.initialized y'.cls).before a0 Z = true) (hy : y'.cls ≠ "java/lang/invoke/MethodHandle" ∧ y'.cls ≠ "java/lang/invoke/VarHandle") (hf : rm'.frames + 1 ≤ R.frames) (hW : (rest.map fun v => v.category).sum ≤ W) (hl : W + (maxL' + 11) + rm'.locals ≤ R.locals) (hc : cs + rm'.cells ≤ R.cells) (hs : sl + rm'.slots ≤ R.slots) (hsz : Ls.size = maxL) {a : Addr} (E : Exa Z h a K0) (hlen : parseMethodDescriptor y'.desc = some ⟨ps, r'⟩) (hal : argsL.length = ps.length) (hst : st = argsL.reverse ++ .ref a :: rest) (has : as' = (.ref a :: argsL).toArray) (hd : decode bytes pc = .ok (.invokevirtual index, 3)) (hp : pc + 3 = pc')
    (K : ∀ v h', Q' v h' → Go p l e R s m args below meth c Z n0 Q kc ks h' (cs + rm'.cells) (sl + rm'.slots) (mkF m pc' Ls (v.toList ++ rest))) : Go p l e R s m args below meth c Z n0 Q kc ks h cs sl (mkF m pc Ls st) := fun T L0 hL O X eT => by
  subst hp has hst
  obtain ⟨cq, kq, qa, qb, qc⟩ := isOf C.2.2.2.2.2.1 eT E
  obtain ⟨v, _, ⟨T1, L1, k1, n1⟩, -, X1, ⟨Lc1, q1, l1, y1, z1⟩, s1⟩ := X.virtualBack C.1 (y := y') (z := y') C.2.2.2.2.2.2.1 (mvT C.2.2.2.2.2.1 w1) (mvT C.2.2.2.2.2.1 w2) (notFace_of_selects (args := #[]) (mvT C.2.2.2.2.2.1 w3)) (mvT C.2.2.2.2.2.1 w3) (mvT C.2.2.2.2.2.1 w4) hy (backOf (W := W) (R := R) (p := p) (e := e) (below := below) (args := args) (len := 3) (Q := fun v h L => Fr n0 L ∧ Old Z n0 h ∧ Q' v h) M C.2.2.2.2.2.1 wc wz hf hl) qa qc (g := mkF m pc Ls (argsL.reverse ++ .ref a :: rest)) rfl (hsz.trans C.2.2.1.symm) (Steps.refl _) (argsL := argsL) (rest := rest) (lenOf hlen hal) rfl (by show 2 * 0 + _ ≤ _; omega) (hb C.2.1 hd) (fun _ _ => ⟨rfl, eT, hc, hs⟩)
  dsimp only [Pt.U, Pt.locs, Pt.cells, Pt.slots] at X1 l1 y1 z1 s1 q1
  subst l1 y1 z1
  obtain ⟨N, O', q⟩ := q1
  obtain ⟨U, w, L', h1, r⟩ := K v _ q T1 _ (Fr.app hL N) O' X1 rfl
  exact ⟨U, w, L', s1.trans h1, r⟩
theorem go_callU (C : Ctx p s m meth c Z y bytes maxL ret) {y' : MethodName} {bytes' : ByteArray} {maxL' : Nat} {ret' : Option FieldType} {rm' : Room} {as' : Array Value} {Q' : Option Value → Heap → Prop} {index W : Nat} {argsL rest : List Value} {ps : List FieldType} {r' : Option FieldType} {K1 : String} (w1 : (Jvm.Cond.methodLink y.cls index ⟨K1, y'.name, y'.desc⟩).before a0 Z = true) (w2 : (Jvm.Cond.sameMethod K1 y'.cls y'.name y'.desc).before a0 Z = true) (w3 : (Jvm.Cond.declares y').before a0 Z = true) {K0 : String} (w4 : (Jvm.Cond.selects K0 ⟨K1, y'.name, y'.desc⟩ y').before a0 Z = true) (w5 : (Jvm.Cond.instanceMethod y').before a0 Z = true) (M : Met l Z n0 y' bytes' maxL' ret' [] rm' as' h Q') (wc : (Jvm.Cond.code y' bytes' maxL' ret').before a0 Z = true) (wz : (Jvm.Cond.initialized y'.cls).before a0 Z = true) (hy : y'.cls ≠ "java/lang/invoke/MethodHandle" ∧ y'.cls ≠ "java/lang/invoke/VarHandle") (hf : rm'.frames + 1 ≤ R.frames) (hW : (rest.map fun v => v.category).sum ≤ W) (hl : W + (maxL' + 11) + rm'.locals ≤ R.locals) (hc : cs + rm'.cells ≤ R.cells) (hs : sl + rm'.slots ≤ R.slots) (hsz : Ls.size = maxL) {a : Addr} (E : Exa Z h a K0) (hlen : parseMethodDescriptor y'.desc = some ⟨ps, r'⟩) (hal : argsL.length = ps.length) (hst : st = argsL.reverse ++ .ref a :: rest) (has : as' = (.ref a :: argsL).toArray) (hd : decode bytes pc = .ok (.invokevirtual index, 3)) (hp : pc + 3 = pc')
    (K : ∀ v h', Q' v h' → Go p l e R s m args below meth c Z n0 Q kc ks h' (cs + rm'.cells) (sl + rm'.slots) (mkF m pc' Ls (v.toList ++ rest))) : Go p l e R s m args below meth c Z n0 Q kc ks h cs sl (mkF m pc Ls st) := fun T L0 hL O X eT => by
  subst hp has hst
  obtain ⟨cq, kq, qa, qb, qc⟩ := isOf C.2.2.2.2.2.1 eT E
  obtain ⟨v, _, ⟨T1, L1, k1, n1⟩, -, X1, ⟨Lc1, q1, l1, y1, z1⟩, s1⟩ := X.virtualBackUp C.1 (x := ⟨K1, y'.name, y'.desc⟩) (y := y') (owner := y'.cls) C.2.2.2.2.2.2.1 (mvT C.2.2.2.2.2.1 w1) (mvT C.2.2.2.2.2.1 w2) (mvT C.2.2.2.2.2.1 w3) hy (mvT C.2.2.2.2.2.1 w4) (mvT C.2.2.2.2.2.1 w5) (backOf (W := W) (R := R) (p := p) (e := e) (below := below) (args := args) (len := 3) (Q := fun v h L => Fr n0 L ∧ Old Z n0 h ∧ Q' v h) M C.2.2.2.2.2.1 wc wz hf hl) qa qc (g := mkF m pc Ls (argsL.reverse ++ .ref a :: rest)) rfl (hsz.trans C.2.2.1.symm) (Steps.refl _) (argsL := argsL) (rest := rest) (lenOf hlen hal) rfl (by show 2 * 0 + _ ≤ _; omega) (hb C.2.1 hd) (fun _ _ => ⟨rfl, eT, hc, hs⟩)
  dsimp only [Pt.U, Pt.locs, Pt.cells, Pt.slots] at X1 l1 y1 z1 s1 q1
  subst l1 y1 z1
  obtain ⟨N, O', q⟩ := q1
  obtain ⟨U, w, L', h1, r⟩ := K v _ q T1 _ (Fr.app hL N) O' X1 rfl
  exact ⟨U, w, L', s1.trans h1, r⟩
theorem go_callI (C : Ctx p s m meth c Z y bytes maxL ret) {y' : MethodName} {bytes' : ByteArray} {maxL' : Nat} {ret' : Option FieldType} {rm' : Room} {as' : Array Value} {Q' : Option Value → Heap → Prop} {index W : Nat} {argsL rest : List Value} {ps : List FieldType} {r' : Option FieldType} {xi : MethodName} {count : Nat} (w1 : (Jvm.Cond.methodLink y.cls index xi).before a0 Z = true) (w2 : (Jvm.Cond.declares xi).before a0 Z = true) (w3 : (Jvm.Cond.interfaceMethod xi.cls xi.cls xi.name xi.desc).before a0 Z = true) {K0 : String} (w4 : (Jvm.Cond.selects K0 xi y').before a0 Z = true) (w5 : (Jvm.Cond.instanceMethod y').before a0 Z = true) (w6 : (Jvm.Cond.publicMethod y').before a0 Z = true) (w7 : (Jvm.Cond.unhidden K0 xi.name xi.desc).before a0 Z = true) (w8 : (Jvm.Cond.castable K0 xi.cls).before a0 Z = true) (hfa : (Jvm.Cond.interfaceMethod xi.cls xi.cls xi.name xi.desc).faceAtom = true) (hyi : xi.cls ≠ "java/lang/invoke/MethodHandle" ∧ xi.cls ≠ "java/lang/invoke/VarHandle") (M : Met l Z n0 y' bytes' maxL' ret' [] rm' as' h Q') (wc : (Jvm.Cond.code y' bytes' maxL' ret').before a0 Z = true) (wz : (Jvm.Cond.initialized y'.cls).before a0 Z = true) (hy : y'.cls ≠ "java/lang/invoke/MethodHandle" ∧ y'.cls ≠ "java/lang/invoke/VarHandle") (hf : rm'.frames + 1 ≤ R.frames) (hW : (rest.map fun v => v.category).sum ≤ W) (hl : W + (maxL' + 11) + rm'.locals ≤ R.locals) (hc : cs + rm'.cells ≤ R.cells) (hs : sl + rm'.slots ≤ R.slots) (hsz : Ls.size = maxL) {a : Addr} (E : Exa Z h a K0) (hlen : parseMethodDescriptor xi.desc = some ⟨ps, r'⟩) (hal : argsL.length = ps.length) (hst : st = argsL.reverse ++ .ref a :: rest) (has : as' = (.ref a :: argsL).toArray) (hd : decode bytes pc = .ok (.invokeinterface index count, 5)) (hp : pc + 5 = pc')
    (K : ∀ v h', Q' v h' → Go p l e R s m args below meth c Z n0 Q kc ks h' (cs + rm'.cells) (sl + rm'.slots) (mkF m pc' Ls (v.toList ++ rest))) : Go p l e R s m args below meth c Z n0 Q kc ks h cs sl (mkF m pc Ls st) := fun T L0 hL O X eT => by
  subst hp has hst
  obtain ⟨cq, kq, qa, qb, qc⟩ := isOf C.2.2.2.2.2.1 eT E
  obtain ⟨v, _, ⟨T1, L1, k1, n1⟩, -, X1, ⟨Lc1, q1, l1, y1, z1⟩, s1⟩ := X.interfaceBack C.1 (xi := xi) (y := y') C.2.2.2.2.2.2.1 (mvT C.2.2.2.2.2.1 w1) (mvT C.2.2.2.2.2.1 w2) (mvT C.2.2.2.2.2.1 w3 (by simp [Cond.onTables, Cond.keepsFace, Cond.keeps, Cond.steady, hfa])) (mvT C.2.2.2.2.2.1 w4) (mvT C.2.2.2.2.2.1 w5) (mvT C.2.2.2.2.2.1 w6) (mvT C.2.2.2.2.2.1 w7) (mvT C.2.2.2.2.2.1 w8) hyi (backOf (W := W) (R := R) (p := p) (e := e) (below := below) (args := args) (len := 5) (Q := fun v h L => Fr n0 L ∧ Old Z n0 h ∧ Q' v h) M C.2.2.2.2.2.1 wc wz hf hl) qa qb qc (g := mkF m pc Ls (argsL.reverse ++ .ref a :: rest)) rfl (hsz.trans C.2.2.1.symm) (Steps.refl _) (argsL := argsL) (rest := rest) (lenOf hlen hal) rfl (by show 2 * 0 + _ ≤ _; omega) (hb C.2.1 hd) (fun _ _ => ⟨rfl, eT, hc, hs⟩)
  dsimp only [Pt.U, Pt.locs, Pt.cells, Pt.slots] at X1 l1 y1 z1 s1 q1
  subst l1 y1 z1
  obtain ⟨N, O', q⟩ := q1
  obtain ⟨U, w, L', h1, r⟩ := K v _ q T1 _ (Fr.app hL N) O' X1 rfl
  exact ⟨U, w, L', s1.trans h1, r⟩
def Ar (Z : State) (h : Heap) (a : Addr) (ty : FieldType) (k : ClassId) (vs : List Value) : Prop := ∃ cl : Cell, Arr Z h a cl ty ∧ cl.cls = k ∧ cl.slots.toList = vs
theorem Ar.ext {a : Addr} {ty : FieldType} {k : ClassId} {vs : List Value} (F : Ar Z h a ty k vs) (E : Ext h h') : Ar Z h' a ty k vs := by obtain ⟨cl, A, r⟩ := F; exact ⟨cl, A.ext E, r⟩
theorem Ar.other {a b : Addr} {sl : Nat} {v : Value} {ty : FieldType} {k : ClassId} {vs : List Value} (F : Ar Z h b ty k vs) (W : Wr h h' a sl v) (q : b ≠ a) : Ar Z h' b ty k vs := by obtain ⟨cl, A, r⟩ := F; exact ⟨cl, A.other W q, r⟩
theorem Ar.keep {a : Addr} {ty : FieldType} {k : ClassId} {vs : List Value} {ws : List Addr} (F : Ar Z h a ty k vs) (K : Keep h h' ws) (q : a ∉ ws) : Ar Z h' a ty k vs := by obtain ⟨cl, A, r⟩ := F; exact ⟨cl, ⟨K.2.1 a cl A.1 q, A.2⟩, r⟩
theorem Ar.lt {a : Addr} {ty : FieldType} {k : ClassId} {vs : List Value} (F : Ar Z h a ty k vs) : a < h.size := by obtain ⟨cl, A, r⟩ := F; exact A.lt
theorem Ar.new {a : Addr} {ty : FieldType} {k : ClassId} {n : Int32} {len : Nat} (A : Arr Z h a (newA k ty n) ty) (hn : n.toNatClampNeg = len) : Ar Z h a ty k (List.replicate len (defaultValue ty)) := ⟨_, A, rfl, by subst hn; simp [newA]⟩
theorem Ar.inb {cl : Cell} {vs : List Value} {j : Int32} {i : Nat} (hn : ¬ j < 0) (hj : j.toNatClampNeg = i) (e0 : cl.slots.toList = vs) (hi : i < vs.length) : ¬ (j < 0 ∨ cl.slots.size ≤ j.toNatClampNeg) := by
  subst e0 hj
  rw [Array.length_toList] at hi
  exact fun q => q.elim hn (fun q => absurd hi (Nat.not_lt.mpr q))
theorem Ar.upd {a : Addr} {ty : FieldType} {cl : Cell} {vs : List Value} {j : Int32} {i : Nat} {v : Value} (A : Arr Z h a (cl.setSlot j.toNatClampNeg v) ty) (hj : j.toNatClampNeg = i) (e0 : cl.slots.toList = vs) : Ar Z h a ty cl.cls (vs.set i v) := ⟨_, A, rfl, by subst hj e0; simp [Cell.setSlot]⟩
theorem go_newPA (C : Ctx p s m meth c Z y bytes maxL ret) {aty : ArrayType} {n : Int32} {len : Nat} {ty : FieldType} (hty : newarray.typeOf aty = ty) (w : (Jvm.Cond.arrayClass ty).before a0 Z = true) (hd : decode bytes pc = .ok (.newarray aty, 2)) (hp : pc + 2 = pc') (hn : ¬ n < 0) (hlen : n.toNatClampNeg = len) (hb' : len * 8 ≤ 536870912) (hc : cs + 1 ≤ R.cells) (hl : sl + len ≤ R.slots)
    (K : ∀ h' a k, a = h.size → n0 ≤ a → Ext h h' → Ar Z h' a ty k (List.replicate len (defaultValue ty)) → Go p l e R s m args below meth c Z n0 Q kc ks h' (cs + 1) (sl + len) (mkF m pc' Ls (.ref a :: st))) : Go p l e R s m args below meth c Z n0 Q kc ks h cs sl (mkF m pc Ls (.int n :: st)) := by
  subst hty
  exact go_newP C w hd hp hn (Nat.le_of_eq hlen) hb' hc hl fun h' a k e1 e2 E A => K h' a k e1 e2 E (Ar.new A hlen)
theorem go_newRA (C : Ctx p s m meth c Z y bytes maxL ret) {K0 : String} {index : Nat} {n : Int32} {len : Nat} (w1 : (Jvm.Cond.classLink y.cls index K0).before a0 Z = true) (w2 : (Jvm.Cond.arrayOver (.object K0)).before a0 Z = true) (hd : decode bytes pc = .ok (.anewarray index, 3)) (hp : pc + 3 = pc') (hn : ¬ n < 0) (hlen : n.toNatClampNeg = len) (hb' : len * 8 ≤ 536870912) (hc : cs + 1 ≤ R.cells) (hl : sl + len ≤ R.slots)
    (K : ∀ h' a k, a = h.size → n0 ≤ a → Ext h h' → Ar Z h' a (.object K0) k (List.replicate len .null) → Ovr Z k K0 → Go p l e R s m args below meth c Z n0 Q kc ks h' (cs + 1) (sl + len) (mkF m pc' Ls (.ref a :: st))) : Go p l e R s m args below meth c Z n0 Q kc ks h cs sl (mkF m pc Ls (.int n :: st)) :=
  go_newR C w1 w2 hd hp hn (Nat.le_of_eq hlen) hb' hc hl fun h' a k e1 e2 E A O => K h' a k e1 e2 E (Ar.new A hlen) O
theorem go_iaset (C : Ctx p s m meth c Z y bytes maxL ret) {a : Addr} {k : ClassId} {vs vs' : List Value} {j : Int32} {i : Nat} {x : Int32} (A : Ar Z h a .int k vs) (hn : ¬ j < 0) (hj : j.toNatClampNeg = i) (hi : i < vs.length) (hvs : vs.set i (.int x) = vs') (hd : decode bytes pc = .ok (.iastore, 1)) (hp : pc + 1 = pc') (ha : n0 ≤ a)
    (K : ∀ h', Wr h h' a i (.int x) → Ar Z h' a .int k vs' → Go p l e R s m args below meth c Z n0 Q kc ks h' cs sl (mkF m pc' Ls st)) : Go p l e R s m args below meth c Z n0 Q kc ks h cs sl (mkF m pc Ls (.int x :: .int j :: .ref a :: st)) := by
  obtain ⟨cl, A, rfl, e0⟩ := A
  subst hvs
  exact go_stI C A (Ar.inb hn hj e0 hi) hd hp ha fun h' W A' => K h' (hj ▸ W) (Ar.upd A' hj e0)
theorem go_laset (C : Ctx p s m meth c Z y bytes maxL ret) {a : Addr} {k : ClassId} {vs vs' : List Value} {j : Int32} {i : Nat} {x : Int64} (A : Ar Z h a .long k vs) (hn : ¬ j < 0) (hj : j.toNatClampNeg = i) (hi : i < vs.length) (hvs : vs.set i (.long x) = vs') (hd : decode bytes pc = .ok (.lastore, 1)) (hp : pc + 1 = pc') (ha : n0 ≤ a)
    (K : ∀ h', Wr h h' a i (.long x) → Ar Z h' a .long k vs' → Go p l e R s m args below meth c Z n0 Q kc ks h' cs sl (mkF m pc' Ls st)) : Go p l e R s m args below meth c Z n0 Q kc ks h cs sl (mkF m pc Ls (.long x :: .int j :: .ref a :: st)) := by
  obtain ⟨cl, A, rfl, e0⟩ := A
  subst hvs
  exact go_stJ C A (Ar.inb hn hj e0 hi) hd hp ha fun h' W A' => K h' (hj ▸ W) (Ar.upd A' hj e0)
theorem go_caset (C : Ctx p s m meth c Z y bytes maxL ret) {a : Addr} {k : ClassId} {vs vs' : List Value} {j : Int32} {i : Nat} {x : Int32} (A : Ar Z h a .char k vs) (hn : ¬ j < 0) (hj : j.toNatClampNeg = i) (hi : i < vs.length) (hvs : vs.set i (.int (nar .char x)) = vs') (hd : decode bytes pc = .ok (.castore, 1)) (hp : pc + 1 = pc') (ha : n0 ≤ a)
    (K : ∀ h', Wr h h' a i (.int (nar .char x)) → Ar Z h' a .char k vs' → Go p l e R s m args below meth c Z n0 Q kc ks h' cs sl (mkF m pc' Ls st)) : Go p l e R s m args below meth c Z n0 Q kc ks h cs sl (mkF m pc Ls (.int x :: .int j :: .ref a :: st)) := by
  obtain ⟨cl, A, rfl, e0⟩ := A
  subst hvs
  exact go_stC C A (Ar.inb hn hj e0 hi) hd hp ha fun h' W A' => K h' (hj ▸ W) (Ar.upd A' hj e0)
theorem go_raset (C : Ctx p s m meth c Z y bytes maxL ret) {a b : Addr} {k : ClassId} {K0 : String} {vs vs' : List Value} {j : Int32} {i : Nat} (A : Ar Z h a (.object K0) k vs) (V : Ovr Z k K0) (I : Ins Z h b K0 true) (hn : ¬ j < 0) (hj : j.toNatClampNeg = i) (hi : i < vs.length) (hvs : vs.set i (.ref b) = vs') (hd : decode bytes pc = .ok (.aastore, 1)) (hp : pc + 1 = pc') (ha : n0 ≤ a)
    (K : ∀ h', Wr h h' a i (.ref b) → Ar Z h' a (.object K0) k vs' → Go p l e R s m args below meth c Z n0 Q kc ks h' cs sl (mkF m pc' Ls st)) : Go p l e R s m args below meth c Z n0 Q kc ks h cs sl (mkF m pc Ls (.ref b :: .int j :: .ref a :: st)) := by
  obtain ⟨cl, A, rfl, e0⟩ := A
  subst hvs
  exact go_stR C A (Ar.inb hn hj e0 hi) rfl (Sto.of A V I) hd hp ha fun h' W A' => K h' (hj ▸ W) (Ar.upd A' hj e0)
theorem go_raget (C : Ctx p s m meth c Z y bytes maxL ret) {a : Addr} {k : ClassId} {vs : List Value} {ty : FieldType} {j : Int32} {i : Nat} {v : Value} (A : Ar Z h a ty k vs) (hty : ty.isReference = true) (hn : ¬ j < 0) (hj : j.toNatClampNeg = i) (hv : vs[i]? = some v) (hd : decode bytes pc = .ok (.aaload, 1)) (hp : pc + 1 = pc') (K : Go p l e R s m args below meth c Z n0 Q kc ks h cs sl (mkF m pc' Ls (v :: st))) : Go p l e R s m args below meth c Z n0 Q kc ks h cs sl (mkF m pc Ls (.int j :: .ref a :: st)) := by
  obtain ⟨cl, A, rfl, e0⟩ := A
  exact go_aaload C A hty (Ar.inb hn hj e0 (List.getElem?_eq_some_iff.mp hv).1) (by subst e0 hj; rw [← hv, Array.getElem?_toList]) hd hp K
theorem go_alen (C : Ctx p s m meth c Z y bytes maxL ret) {a : Addr} {k : ClassId} {vs : List Value} {ty : FieldType} {z : Int32} (A : Ar Z h a ty k vs) (hz : vs.length.toInt32 = z) (hd : decode bytes pc = .ok (.arraylength, 1)) (hp : pc + 1 = pc') (K : Go p l e R s m args below meth c Z n0 Q kc ks h cs sl (mkF m pc' Ls (.int z :: st))) : Go p l e R s m args below meth c Z n0 Q kc ks h cs sl (mkF m pc Ls (.ref a :: st)) := by
  obtain ⟨cl, A, rfl, e0⟩ := A
  exact go_arraylength C A (by rw [← hz, ← e0, Array.length_toList]) hd hp K
theorem go_iaget (C : Ctx p s m meth c Z y bytes maxL ret) {a : Addr} {k : ClassId} {vs : List Value} {j : Int32} {i : Nat} {v : Value} (A : Ar Z h a .int k vs) (hn : ¬ j < 0) (hj : j.toNatClampNeg = i) (hv : vs[i]? = some v) (hd : decode bytes pc = .ok (.iaload, 1)) (hp : pc + 1 = pc') (K : Go p l e R s m args below meth c Z n0 Q kc ks h cs sl (mkF m pc' Ls (v :: st))) : Go p l e R s m args below meth c Z n0 Q kc ks h cs sl (mkF m pc Ls (.int j :: .ref a :: st)) := by
  obtain ⟨cl, A, rfl, e0⟩ := A
  exact go_iaload C A (Ar.inb hn hj e0 (List.getElem?_eq_some_iff.mp hv).1) (by subst e0 hj; rw [← hv, Array.getElem?_toList]) hd hp K
theorem go_laget (C : Ctx p s m meth c Z y bytes maxL ret) {a : Addr} {k : ClassId} {vs : List Value} {j : Int32} {i : Nat} {v : Value} (A : Ar Z h a .long k vs) (hn : ¬ j < 0) (hj : j.toNatClampNeg = i) (hv : vs[i]? = some v) (hd : decode bytes pc = .ok (.laload, 1)) (hp : pc + 1 = pc') (K : Go p l e R s m args below meth c Z n0 Q kc ks h cs sl (mkF m pc' Ls (v :: st))) : Go p l e R s m args below meth c Z n0 Q kc ks h cs sl (mkF m pc Ls (.int j :: .ref a :: st)) := by
  obtain ⟨cl, A, rfl, e0⟩ := A
  exact go_laload C A (Ar.inb hn hj e0 (List.getElem?_eq_some_iff.mp hv).1) (by subst e0 hj; rw [← hv, Array.getElem?_toList]) hd hp K
theorem go_caget (C : Ctx p s m meth c Z y bytes maxL ret) {a : Addr} {k : ClassId} {vs : List Value} {j : Int32} {i : Nat} {v : Value} (A : Ar Z h a .char k vs) (hn : ¬ j < 0) (hj : j.toNatClampNeg = i) (hv : vs[i]? = some v) (hd : decode bytes pc = .ok (.caload, 1)) (hp : pc + 1 = pc') (K : Go p l e R s m args below meth c Z n0 Q kc ks h cs sl (mkF m pc' Ls (v :: st))) : Go p l e R s m args below meth c Z n0 Q kc ks h cs sl (mkF m pc Ls (.int j :: .ref a :: st)) := by
  obtain ⟨cl, A, rfl, e0⟩ := A
  exact go_caload C A (Ar.inb hn hj e0 (List.getElem?_eq_some_iff.mp hv).1) (by subst e0 hj; rw [← hv, Array.getElem?_toList]) hd hp K
theorem go_clone (C : Ctx p s m meth c Z y bytes maxL ret) {ad : String} {index : Nat} {a : Addr} {ty : FieldType} {k : ClassId} {vs : List Value} {len W : Nat}
    (w1 : (Jvm.Cond.methodLink y.cls index ⟨ad, "clone", "()Ljava/lang/Object;"⟩).before a0 Z = true) (w2 : (Jvm.Cond.sameMethod ad "java/lang/Object" "clone" "()Ljava/lang/Object;").before a0 Z = true) (w3 : (Jvm.Cond.native ⟨"java/lang/Object", "clone", "()Ljava/lang/Object;"⟩).before a0 Z = true)
    (w4 : (Jvm.Cond.instanceMethod ⟨"java/lang/Object", "clone", "()Ljava/lang/Object;"⟩).before a0 Z = true) (w5 : (Jvm.Cond.selects ad ⟨ad, "clone", "()Ljava/lang/Object;"⟩ ⟨"java/lang/Object", "clone", "()Ljava/lang/Object;"⟩).before a0 Z = true) (w6 : (Jvm.Cond.castable ad "java/lang/Cloneable").before a0 Z = true)
    (A : Ar Z h a ty k vs) (E : Exa Z h a ad) (hfit : ∀ v ∈ vs, fits ty v = true) (hsz : Ls.size = maxL) (hd : decode bytes pc = .ok (.invokevirtual index, 3)) (hp : pc + 3 = pc') (hf : 1 ≤ R.frames) (hW : (st.map fun v => v.category).sum ≤ W) (hl : W + 14 ≤ R.locals) (hlen : vs.length = len) (hc : cs + 1 ≤ R.cells) (hsl : sl + len ≤ R.slots)
    (K : ∀ h' b, b = h.size → n0 ≤ b → Ext h h' → Ar Z h' b ty k vs → Exa Z h' b ad → Go p l e R s m args below meth c Z n0 Q kc ks h' (cs + 1) (sl + len) (mkF m pc' Ls (.ref b :: st))) : Go p l e R s m args below meth c Z n0 Q kc ks h cs sl (mkF m pc Ls (.ref a :: st)) := fun T L0 hL O X eT => by
  subst hp
  obtain ⟨cl, A, hk', e0⟩ := A
  have FC : FitC Z cl := fitC_of A fun i hi v hv => hfit v (by subst e0; exact List.mem_of_getElem? (by rw [Array.getElem?_toList]; exact hv))
  obtain ⟨T', h', X', e', E', A', Ex', hs⟩ := cloneA X C.1 C.2.2.2.2.2.1 C.2.2.2.2.2.2.1 w1 w2 w3 w4 w5 w6 eT A E FC (g := mkF m pc Ls (.ref a :: st)) rfl (hsz.trans C.2.2.1.symm) rfl (hb C.2.1 hd) hf (W := W) (by show 2 * 0 + _ ≤ _; omega) hl (cap := len) (by rw [← hlen, ← e0, Array.length_toList]; exact Nat.le_refl _) hc hsl
  obtain ⟨U, v, L', h1, r⟩ := K h' h.size rfl (O.1 ▸ O.2.1) E' ⟨cloneOf cl, A', hk', e0⟩ Ex' T' _ hL (O.ext E') X' e'
  exact ⟨U, v, L', hs U h1, r⟩
theorem go_newPE (C : Ctx p s m meth c Z y bytes maxL ret) {aty : ArrayType} {n : Int32} {len : Nat} {ty : FieldType} {ad : String} (hty : newarray.typeOf aty = ty) (had : "[" ++ ty.toString = ad) (w : (Jvm.Cond.arrayClass ty).before a0 Z = true) (hd : decode bytes pc = .ok (.newarray aty, 2)) (hp : pc + 2 = pc') (hn : ¬ n < 0) (hlen : n.toNatClampNeg = len) (hb' : len * 8 ≤ 536870912) (hc : cs + 1 ≤ R.cells) (hl : sl + len ≤ R.slots)
    (K : ∀ h' a k, a = h.size → n0 ≤ a → Ext h h' → Ar Z h' a ty k (List.replicate len (defaultValue ty)) → Exa Z h' a ad → Go p l e R s m args below meth c Z n0 Q kc ks h' (cs + 1) (sl + len) (mkF m pc' Ls (.ref a :: st))) : Go p l e R s m args below meth c Z n0 Q kc ks h cs sl (mkF m pc Ls (.int n :: st)) := fun T L0 hL O X eT => by
  subst hp hty
  obtain ⟨T', h', k, X', e', E, A, Ex, hs⟩ := newPE X C.1 C.2.2.2.2.2.1 w eT (g := mkF m pc Ls (.int n :: st)) rfl (hb C.2.1 hd) rfl hn (Nat.le_of_eq hlen) hb' hc hl had
  obtain ⟨U, v, L', h1, r⟩ := K h' h.size k rfl (O.1 ▸ O.2.1) E (Ar.new A hlen) Ex T' _ hL (O.ext E) X' e'
  exact ⟨U, v, L', hs U h1, r⟩
theorem go_newAA (C : Ctx p s m meth c Z y bytes maxL ret) {K0 ad : String} {ty : FieldType} {index : Nat} {n : Int32} {len : Nat} (hC : (FieldType.array ty).toString = K0) (had : "[" ++ K0 = ad) (w1 : (Jvm.Cond.classLink y.cls index K0).before a0 Z = true) (w2 : (Jvm.Cond.arrayOver (.array ty)).before a0 Z = true) (hd : decode bytes pc = .ok (.anewarray index, 3)) (hp : pc + 3 = pc') (hn : ¬ n < 0) (hlen : n.toNatClampNeg = len) (hb' : len * 8 ≤ 536870912) (hc : cs + 1 ≤ R.cells) (hl : sl + len ≤ R.slots)
    (K : ∀ h' a k, a = h.size → n0 ≤ a → Ext h h' → Ar Z h' a (.array ty) k (List.replicate len .null) → OvrA Z k ty K0 → Exa Z h' a ad → Go p l e R s m args below meth c Z n0 Q kc ks h' (cs + 1) (sl + len) (mkF m pc' Ls (.ref a :: st))) : Go p l e R s m args below meth c Z n0 Q kc ks h cs sl (mkF m pc Ls (.int n :: st)) := fun T L0 hL O X eT => by
  subst hp
  obtain ⟨T', h', k, X', e', E, A, Ex, V, hs⟩ := newRA X C.1 C.2.2.2.2.2.1 C.2.2.2.2.2.2.1 hC w1 w2 eT (g := mkF m pc Ls (.int n :: st)) rfl (hb C.2.1 hd) rfl hn (Nat.le_of_eq hlen) hb' hc hl had
  obtain ⟨U, v, L', h1, r⟩ := K h' h.size k rfl (O.1 ▸ O.2.1) E (Ar.new A hlen) V Ex T' _ hL (O.ext E) X' e'
  exact ⟨U, v, L', hs U h1, r⟩
theorem go_aaset (C : Ctx p s m meth c Z y bytes maxL ret) {a b : Addr} {k : ClassId} {K0 : String} {ty : FieldType} {vs vs' : List Value} {j : Int32} {i : Nat} (A : Ar Z h a (.array ty) k vs) (V : OvrA Z k ty K0) (I : Ins Z h b K0 true) (hn : ¬ j < 0) (hj : j.toNatClampNeg = i) (hi : i < vs.length) (hvs : vs.set i (.ref b) = vs') (hd : decode bytes pc = .ok (.aastore, 1)) (hp : pc + 1 = pc') (ha : n0 ≤ a)
    (K : ∀ h', Wr h h' a i (.ref b) → Ar Z h' a (.array ty) k vs' → Go p l e R s m args below meth c Z n0 Q kc ks h' cs sl (mkF m pc' Ls st)) : Go p l e R s m args below meth c Z n0 Q kc ks h cs sl (mkF m pc Ls (.ref b :: .int j :: .ref a :: st)) := by
  obtain ⟨cl, A, rfl, e0⟩ := A
  subst hvs
  exact go_stR C A (Ar.inb hn hj e0 hi) rfl (Sto.ofVA A rfl V I) hd hp ha fun h' W A' => K h' (hj ▸ W) (Ar.upd A' hj e0)
theorem go_dupX2 (C : Ctx p s m meth c Z y bytes maxL ret) {u v w : Value} (hd : decode bytes pc = .ok (.dup_x2, 1)) (hu : u.category = 1) (hv : v.category = 1) (hw : w.category = 1) (hp : pc + 1 = pc') (K : Go p l e R s m args below meth c Z n0 Q kc ks h cs sl (mkF m pc' Ls (u :: v :: w :: u :: st))) : Go p l e R s m args below meth c Z n0 Q kc ks h cs sl (mkF m pc Ls (u :: v :: w :: st)) := by
  subst hp
  refine go_step K fun T t a k => ?_
  have hx := C.1
  have hd' := hb C.2.1 hd
  jvm_step a [a.top, hx, hd', hu, hv, hw]
  exact k
theorem go_callP (C : Ctx p s m meth c Z y bytes maxL ret) {y' : MethodName} {bytes' : ByteArray} {maxL' : Nat} {ret' : Option FieldType} {rm' : Room} {as' : Array Value} {Q' : Option Value → Heap → Prop} {index W : Nat} {argsL rest : List Value} {ps : List FieldType} {r' : Option FieldType} (w1 : (Jvm.Cond.methodLink y.cls index y').before a0 Z = true) (w2 : (Jvm.Cond.instanceMethod y').before a0 Z = true) (w3 : (Jvm.Cond.privateMethod y').before a0 Z = true) {nn : Nat} (wi : (Jvm.Cond.instantiable y'.cls nn).before a0 Z = true) (M : Met l Z n0 y' bytes' maxL' ret' [] rm' as' h Q') (wc : (Jvm.Cond.code y' bytes' maxL' ret').before a0 Z = true) (wz : (Jvm.Cond.initialized y'.cls).before a0 Z = true) (hy : y'.cls ≠ "java/lang/invoke/MethodHandle" ∧ y'.cls ≠ "java/lang/invoke/VarHandle") (hf : rm'.frames + 1 ≤ R.frames) (hW : (rest.map fun v => v.category).sum ≤ W) (hl : W + (maxL' + 11) + rm'.locals ≤ R.locals) (hc : cs + rm'.cells ≤ R.cells) (hs : sl + rm'.slots ≤ R.slots) (hsz : Ls.size = maxL) {a : Addr} {K0 : String} (E : Exa Z h a K0) (hlen : parseMethodDescriptor y'.desc = some ⟨ps, r'⟩) (hal : argsL.length = ps.length) (hst : st = argsL.reverse ++ .ref a :: rest) (has : as' = (.ref a :: argsL).toArray) (hd : decode bytes pc = .ok (.invokevirtual index, 3)) (hp : pc + 3 = pc')
    (K : ∀ v h', Q' v h' → Go p l e R s m args below meth c Z n0 Q kc ks h' (cs + rm'.cells) (sl + rm'.slots) (mkF m pc' Ls (v.toList ++ rest))) : Go p l e R s m args below meth c Z n0 Q kc ks h cs sl (mkF m pc Ls st) := fun T L0 hL O X eT => by
  subst hp has hst
  obtain ⟨mk, methM, hnamed, hmethM, hstM, habM⟩ := Cond.instanceMethod_spec (mvT (args := args) C.2.2.2.2.2.1 w2)
  obtain ⟨methM', cM, hmethM', -, -, -, -, -, -, hsigM⟩ := Cond.code_spec hnamed (mvT (args := args) C.2.2.2.2.2.1 wc)
  cases hmethM.symm.trans hmethM'
  obtain ⟨c0, kP, i1, hkP, -, hkPi0, -⟩ := Cond.instantiable_spec (mvT (args := args) C.2.2.2.2.2.1 wi)
  have hkPi := (Bool.or_eq_false_iff.mp hkPi0).1
  cases (findClass_of_methodNamed hnamed).symm.trans i1
  obtain ⟨cell, hcell0, hobj⟩ := E.cell
  have hcell : T.heap[a]? = some cell := by rw [eT]; exact hcell0
  have hselP : selectMethod e.platform s.vm cell.cls mk = .method mk := selectMethod_private hmethM (Cond.privateMethod_at (mvP (args := args) C.2.2.2.2.2.1 w3) mk methM hnamed hmethM)
  obtain ⟨vm₁, X₁, hstep₁⟩ := X.invokevirtual C.1 C.2.2.2.2.2.2.1 (mvT C.2.2.2.2.2.1 w1) hnamed hmethM hstM hkP hkPi hy (a := a) (cell := cell) hcell hobj hselP hmethM habM hkP hkPi (g := mkF m pc Ls (argsL.reverse ++ .ref a :: rest)) rfl (argsL := argsL) (rest := rest) (lenOf hlen hal _ hsigM) rfl (hb C.2.1 hd)
  obtain ⟨v, ⟨T1, L1, k1, n1⟩, X1, ⟨Lc1, q1, l1, y1, z1⟩, hsteps⟩ := (backOf (W := W) (R := R) (p := p) (e := e) (below := below) (args := args) (len := 3) (Q := fun v h L => Fr n0 L ∧ Old Z n0 h ∧ Q' v h) M C.2.2.2.2.2.1 wc wz hf hl) m meth c ⟨T.setVm vm₁, L0, cs, sl⟩ (mkF m pc Ls rest) (.invokevirtual index) mk (.ref a :: argsL).toArray X₁ rfl (hsz.trans C.2.2.1.symm) (hb C.2.1 hd) (by show 2 * 0 + (rest.map fun v => v.category).sum ≤ W; omega) (X₁.named hnamed) ⟨rfl, eT, hc, hs⟩
  have s1 := (hstep₁ _ fun acts => by rw [doInvoke_state]; exact Steps.refl _).trans hsteps
  dsimp only [Pt.U, Pt.locs, Pt.cells, Pt.slots] at X1 l1 y1 z1 s1 q1
  subst l1 y1 z1
  obtain ⟨N, O', q⟩ := q1
  obtain ⟨U, w, L', h1, r⟩ := K v _ q T1 _ (Fr.app hL N) O' X1 rfl
  exact ⟨U, w, L', s1.trans h1, r⟩
theorem Ar.arv {a : Addr} {ty : FieldType} {k : ClassId} {vs : List Value} (F : Ar Z h a ty k vs) (hl : vs.length < 2147483648) (hf : ∀ v ∈ vs, fits ty v = true) (d : Value) : Arv Z h a k ty vs.length.toInt32 vs d := by
  obtain ⟨cl, A, hk, e0⟩ := F
  have hs : cl.slots.size = vs.length := by rw [← e0, Array.length_toList]
  have hn : vs.length.toInt32.toInt = vs.length := len_toInt hl
  have hc : vs.length.toInt32.toNatClampNeg = vs.length := by rw [Int32.toNatClampNeg, hn]; exact Int.toNat_natCast _
  refine ⟨cl, A, hk, by rw [hs, hc], ?_, fun i hi => ?_, fun i hi => ?_⟩
  · rw [Int32.lt_iff_toInt_lt, hn]
    have : (0 : Int32).toInt = 0 := by decide
    omega
  · have q : i < vs.length := by omega
    rw [← Array.getElem?_toList, e0, List.getD_eq_getElem?_getD, List.getElem?_eq_getElem q]; rfl
  · have q : i < vs.length := by omega
    rw [List.getD_eq_getElem?_getD, List.getElem?_eq_getElem q]; exact hf _ (List.getElem_mem q)
theorem Ar.of_arv {a : Addr} {ty : FieldType} {k : ClassId} {vs : List Value} {n : Int32} {d : Value} (F : Arv Z h a k ty n vs d) (hl : n.toNatClampNeg = vs.length) : Ar Z h a ty k vs := by
  obtain ⟨cl, A, hk, hs, hn, H, G⟩ := F
  refine ⟨cl, A, hk, List.ext_getElem? fun i => ?_⟩
  by_cases q : i < cl.slots.size
  · rw [Array.getElem?_toList, H i q, List.getD_eq_getElem?_getD, List.getElem?_eq_getElem (by omega)]; rfl
  · rw [List.getElem?_eq_none (by rw [Array.length_toList]; omega), List.getElem?_eq_none (by omega)]
theorem go_acopy (C : Ctx p s m meth c Z y bytes maxL ret) {index : Nat} {a b : Addr} {ty : FieldType} {k k' : ClassId} {vs vd vs' : List Value} {sp dp nn : Int32} {i j q W : Nat}
    (w1 : (Jvm.Cond.methodLink y.cls index Jvm.Stand.acN).before a0 Z = true) (w2 : (Jvm.Cond.native Jvm.Stand.acN).before a0 Z = true) (w3 : (Jvm.Cond.static Jvm.Stand.acN).before a0 Z = true) (w4 : (Jvm.Cond.initialized "java/lang/System").before a0 Z = true)
    (A : Ar Z h a ty k vs) (B : Ar Z h b ty k' vd) (hty : refKind ty = false) (hfa : ∀ v ∈ vs, fits ty v = true) (hfb : ∀ v ∈ vd, fits ty v = true) (hla : vs.length < 2147483648) (hlb : vd.length < 2147483648)
    (s1 : ¬ sp < 0) (s2 : sp.toNatClampNeg = i) (d1 : ¬ dp < 0) (d2 : dp.toNatClampNeg = j) (n1 : ¬ nn < 0) (n2 : nn.toNatClampNeg = q) (h4 : i + q ≤ vs.length) (h5 : j + q ≤ vd.length)
    (hvs : vd.take j ++ ((List.range q).map fun z => vs.getD (i + z) .null) ++ vd.drop (j + q) = vs') (hsz : Ls.size = maxL) (hd : decode bytes pc = .ok (.invokestatic index, 3)) (hp : pc + 3 = pc') (ha : n0 ≤ b) (hf : 1 ≤ R.frames) (hW : (st.map fun v => v.category).sum ≤ W) (hl : W + (nativeFrameWords "java/lang/System" "arraycopy" 5 + 11) ≤ R.locals)
    (K : ∀ h', Keep h h' [b] → Ar Z h' b ty k' vs' → Go p l e R s m args below meth c Z n0 Q kc ks h' cs sl (mkF m pc' Ls st)) : Go p l e R s m args below meth c Z n0 Q kc ks h cs sl (mkF m pc Ls (.int nn :: .int dp :: .ref b :: .int sp :: .ref a :: st)) := fun T L0 hL O X eT => by
  subst hp hvs
  have ca : vs.length.toInt32.toNatClampNeg = vs.length := by rw [Int32.toNatClampNeg, len_toInt hla]; exact Int.toNat_natCast _
  have cb : vd.length.toInt32.toNatClampNeg = vd.length := by rw [Int32.toNatClampNeg, len_toInt hlb]; exact Int.toNat_natCast _
  obtain ⟨T', h', L, X', e', N, Kp, V, hs⟩ := cpA X C.1 C.2.2.2.2.2.1 C.2.2.2.2.2.2.1 w1 w2 w3 w4 eT (A.arv hla hfa .null) (B.arv hlb hfb .null) (Or.inl ⟨rfl, hty⟩) s1 d1 n1 (by rw [s2, n2, ca]; exact h4) (by rw [d2, n2, cb]; exact h5) (by rw [s2, n2]) (by rw [d2, n2]; exact h5) hL ha (g := mkF m pc Ls (.int nn :: .int dp :: .ref b :: .int sp :: .ref a :: st)) rfl (hsz.trans C.2.2.1.symm) rfl (hb C.2.1 hd) hf (W := W) (by show 2 * 0 + _ ≤ _; omega) hl
  rw [d2, n2] at V
  have V' : Ar Z h' b ty k' (vd.take j ++ ((List.range q).map fun z => vs.getD (i + z) .null) ++ vd.drop (j + q)) := Ar.of_arv V (by rw [cb]; simp; omega)
  obtain ⟨U, v, L', h1, r⟩ := K h' Kp V' T' _ N (O.keep Kp (allS ha all0)) X' e'
  exact ⟨U, v, L', hs U h1, r⟩
theorem gF (C : Ctx p s m meth c Z y bytes maxL ret) {O n d : String} {index : Nat} {a : Addr} {v : Value} (w : (Jvm.Cond.fieldLink y.cls index O n d).before a0 Z = true) (F : Fld Z h a O n d v) (hd : decode bytes pc = .ok (.getfield index, 3)) (hp : pc + 3 = pc') (K : Go p l e R s m args below meth c Z n0 Q kc ks h cs sl (mkF m pc' Ls (v :: st))) : Go p l e R s m args below meth c Z n0 Q kc ks h cs sl (mkF m pc Ls (.ref a :: st)) := go_getF C (host := "") (Or.inl w) Via.refl F hd hp K
theorem gI (C : Ctx p s m meth c Z y bytes maxL ret) {k : Nat} {cst : Int} {x z : Int32} (hd : decode bytes pc = .ok (.iinc k cst, 3)) (hl : Ls[k]? = some (.val (.int x))) (hz : x + Int32.ofInt cst = z) (hl' : storeLocals Ls k (.int z) = some Ls') (hp : pc + 3 = pc') (K : Go p l e R s m args below meth c Z n0 Q kc ks h cs sl (mkF m pc' Ls' st)) : Go p l e R s m args below meth c Z n0 Q kc ks h cs sl (mkF m pc Ls st) := by
  subst hz
  exact go_iinc C hd hl hl' hp K
end OwnGo
abbrev Hw (Z : State) (a0 : Array Value) : Prop := ∀ d ∈ tables_1, d.before a0 Z = true
theorem wd_0 {Z : State} {a0 : Array Value} (hw : Hw Z a0) : (Jvm.Cond.methodLink "com/example/invariant/invariant/check/ConfigurationStoreCopyPinLaw" (7 : Nat) ({ cls := "java/lang/Math", name := "min", desc := "(II)I" } : Jvm.MethodName)).before a0 Z = true := hw _ (List.mem_of_getElem? (i := 0) rfl)
theorem wd_1 {Z : State} {a0 : Array Value} (hw : Hw Z a0) : (Jvm.Cond.static ({ cls := "java/lang/Math", name := "min", desc := "(II)I" } : Jvm.MethodName)).before a0 Z = true := hw _ (List.mem_of_getElem? (i := 1) rfl)
theorem wd_2 {Z : State} {a0 : Array Value} (hw : Hw Z a0) : (Jvm.Cond.initialized "java/lang/Math").before a0 Z = true := hw _ (List.mem_of_getElem? (i := 2) rfl)
theorem wd_3 {Z : State} {a0 : Array Value} (hw : Hw Z a0) : (Jvm.Cond.code ({ cls := "java/lang/Math", name := "min", desc := "(II)I" } : Jvm.MethodName) jdk_29_method_69_code (2 : Nat) (Option.some Jvm.ClassFile.FieldType.int)).before a0 Z = true := hw _ (List.mem_of_getElem? (i := 3) rfl)
theorem wd_4 {Z : State} {a0 : Array Value} (hw : Hw Z a0) : (Jvm.Cond.methodLink "com/example/invariant/invariant/check/ConfigurationStoreCopyPinLaw" (13 : Nat) ({ cls := "java/lang/Math", name := "max", desc := "(II)I" } : Jvm.MethodName)).before a0 Z = true := hw _ (List.mem_of_getElem? (i := 4) rfl)
theorem wd_5 {Z : State} {a0 : Array Value} (hw : Hw Z a0) : (Jvm.Cond.static ({ cls := "java/lang/Math", name := "max", desc := "(II)I" } : Jvm.MethodName)).before a0 Z = true := hw _ (List.mem_of_getElem? (i := 5) rfl)
theorem wd_6 {Z : State} {a0 : Array Value} (hw : Hw Z a0) : (Jvm.Cond.code ({ cls := "java/lang/Math", name := "max", desc := "(II)I" } : Jvm.MethodName) jdk_29_method_65_code (2 : Nat) (Option.some Jvm.ClassFile.FieldType.int)).before a0 Z = true := hw _ (List.mem_of_getElem? (i := 6) rfl)
theorem wd_7 {Z : State} {a0 : Array Value} (hw : Hw Z a0) : (Jvm.Cond.constantLong "com/example/invariant/invariant/check/ConfigurationStoreCopyPinLaw" (16 : Nat) (4294967295 : Int64)).before a0 Z = true := hw _ (List.mem_of_getElem? (i := 7) rfl)
theorem wd_8 {Z : State} {a0 : Array Value} (hw : Hw Z a0) : (Jvm.Cond.arrayClass Jvm.ClassFile.FieldType.int).before a0 Z = true := hw _ (List.mem_of_getElem? (i := 8) rfl)
theorem wd_9 {Z : State} {a0 : Array Value} (hw : Hw Z a0) : (Jvm.Cond.constant "com/example/invariant/invariant/check/ConfigurationStoreCopyPinLaw" (20 : Nat) (-2147483648 : Int32)).before a0 Z = true := hw _ (List.mem_of_getElem? (i := 9) rfl)
theorem wd_10 {Z : State} {a0 : Array Value} (hw : Hw Z a0) : (Jvm.Cond.constant "com/example/invariant/invariant/check/ConfigurationStoreCopyPinLaw" (21 : Nat) (2147483647 : Int32)).before a0 Z = true := hw _ (List.mem_of_getElem? (i := 10) rfl)
theorem wd_11 {Z : State} {a0 : Array Value} (hw : Hw Z a0) : (Jvm.Cond.classLink "com/example/invariant/invariant/check/ConfigurationStoreCopyPinLaw" (22 : Nat) "com/example/invariant/invariant/check/ConfigurationStore").before a0 Z = true := hw _ (List.mem_of_getElem? (i := 11) rfl)
theorem wd_12 {Z : State} {a0 : Array Value} (hw : Hw Z a0) : (Jvm.Cond.instantiable "com/example/invariant/invariant/check/ConfigurationStore" (12 : Nat)).before a0 Z = true := hw _ (List.mem_of_getElem? (i := 12) rfl)
theorem wd_13 {Z : State} {a0 : Array Value} (hw : Hw Z a0) : (Jvm.Cond.initialized "com/example/invariant/invariant/check/ConfigurationStore").before a0 Z = true := hw _ (List.mem_of_getElem? (i := 13) rfl)
theorem wd_14 {Z : State} {a0 : Array Value} (hw : Hw Z a0) : (Jvm.Cond.methodLink "com/example/invariant/invariant/check/ConfigurationStoreCopyPinLaw" (24 : Nat) ({ cls := "com/example/invariant/invariant/check/ConfigurationStore", name := "<init>", desc := "([I[II)V" } : Jvm.MethodName)).before a0 Z = true := hw _ (List.mem_of_getElem? (i := 14) rfl)
theorem wd_15 {Z : State} {a0 : Array Value} (hw : Hw Z a0) : (Jvm.Cond.instanceMethod ({ cls := "com/example/invariant/invariant/check/ConfigurationStore", name := "<init>", desc := "([I[II)V" } : Jvm.MethodName)).before a0 Z = true := hw _ (List.mem_of_getElem? (i := 15) rfl)
theorem wd_16 {Z : State} {a0 : Array Value} (hw : Hw Z a0) : (Jvm.Cond.code ({ cls := "com/example/invariant/invariant/check/ConfigurationStore", name := "<init>", desc := "([I[II)V" } : Jvm.MethodName) prog_52_method_2_code (10 : Nat) (Option.none : Option Jvm.ClassFile.FieldType)).before a0 Z = true := hw _ (List.mem_of_getElem? (i := 16) rfl)
theorem wd_17 {Z : State} {a0 : Array Value} (hw : Hw Z a0) : (Jvm.Cond.methodLink "com/example/invariant/invariant/check/ConfigurationStore" (7 : Nat) ({ cls := "java/lang/Object", name := "<init>", desc := "()V" } : Jvm.MethodName)).before a0 Z = true := hw _ (List.mem_of_getElem? (i := 17) rfl)
theorem wd_18 {Z : State} {a0 : Array Value} (hw : Hw Z a0) : (Jvm.Cond.instanceMethod ({ cls := "java/lang/Object", name := "<init>", desc := "()V" } : Jvm.MethodName)).before a0 Z = true := hw _ (List.mem_of_getElem? (i := 18) rfl)
theorem wd_19 {Z : State} {a0 : Array Value} (hw : Hw Z a0) : (Jvm.Cond.code ({ cls := "java/lang/Object", name := "<init>", desc := "()V" } : Jvm.MethodName) object_method_1_code (1 : Nat) (Option.none : Option Jvm.ClassFile.FieldType)).before a0 Z = true := hw _ (List.mem_of_getElem? (i := 19) rfl)
theorem wd_20 {Z : State} {a0 : Array Value} (hw : Hw Z a0) : (Jvm.Cond.classLink "com/example/invariant/invariant/check/ConfigurationStore" (12 : Nat) "[J").before a0 Z = true := hw _ (List.mem_of_getElem? (i := 20) rfl)
theorem wd_21 {Z : State} {a0 : Array Value} (hw : Hw Z a0) : (Jvm.Cond.arrayOver (Jvm.ClassFile.FieldType.array Jvm.ClassFile.FieldType.long)).before a0 Z = true := hw _ (List.mem_of_getElem? (i := 21) rfl)
theorem wd_22 {Z : State} {a0 : Array Value} (hw : Hw Z a0) : (Jvm.Cond.fieldLink "com/example/invariant/invariant/check/ConfigurationStore" (14 : Nat) "com/example/invariant/invariant/check/ConfigurationStore" "pages" "[[J").before a0 Z = true := hw _ (List.mem_of_getElem? (i := 22) rfl)
theorem wd_23 {Z : State} {a0 : Array Value} (hw : Hw Z a0) : (Jvm.Cond.lays "com/example/invariant/invariant/check/ConfigurationStore" "com/example/invariant/invariant/check/ConfigurationStore" "pages" "[[J").before a0 Z = true := hw _ (List.mem_of_getElem? (i := 23) rfl)
theorem wd_24 {Z : State} {a0 : Array Value} (hw : Hw Z a0) : (Jvm.Cond.arrayClass Jvm.ClassFile.FieldType.long).before a0 Z = true := hw _ (List.mem_of_getElem? (i := 24) rfl)
theorem wd_25 {Z : State} {a0 : Array Value} (hw : Hw Z a0) : (Jvm.Cond.fieldLink "com/example/invariant/invariant/check/ConfigurationStore" (18 : Nat) "com/example/invariant/invariant/check/ConfigurationStore" "table" "[J").before a0 Z = true := hw _ (List.mem_of_getElem? (i := 25) rfl)
theorem wd_26 {Z : State} {a0 : Array Value} (hw : Hw Z a0) : (Jvm.Cond.lays "com/example/invariant/invariant/check/ConfigurationStore" "com/example/invariant/invariant/check/ConfigurationStore" "table" "[J").before a0 Z = true := hw _ (List.mem_of_getElem? (i := 26) rfl)
theorem wd_27 {Z : State} {a0 : Array Value} (hw : Hw Z a0) : (Jvm.Cond.methodLink "com/example/invariant/invariant/check/ConfigurationStore" (21 : Nat) ({ cls := "[I", name := "clone", desc := "()Ljava/lang/Object;" } : Jvm.MethodName)).before a0 Z = true := hw _ (List.mem_of_getElem? (i := 27) rfl)
theorem wd_28 {Z : State} {a0 : Array Value} (hw : Hw Z a0) : (Jvm.Cond.sameMethod "[I" "java/lang/Object" "clone" "()Ljava/lang/Object;").before a0 Z = true := hw _ (List.mem_of_getElem? (i := 28) rfl)
theorem wd_30 {Z : State} {a0 : Array Value} (hw : Hw Z a0) : (Jvm.Cond.instanceMethod ({ cls := "java/lang/Object", name := "clone", desc := "()Ljava/lang/Object;" } : Jvm.MethodName)).before a0 Z = true := hw _ (List.mem_of_getElem? (i := 30) rfl)
theorem wd_31 {Z : State} {a0 : Array Value} (hw : Hw Z a0) : (Jvm.Cond.selects "[I" ({ cls := "[I", name := "clone", desc := "()Ljava/lang/Object;" } : Jvm.MethodName) ({ cls := "java/lang/Object", name := "clone", desc := "()Ljava/lang/Object;" } : Jvm.MethodName)).before a0 Z = true := hw _ (List.mem_of_getElem? (i := 31) rfl)
theorem wd_32 {Z : State} {a0 : Array Value} (hw : Hw Z a0) : (Jvm.Cond.native ({ cls := "java/lang/Object", name := "clone", desc := "()Ljava/lang/Object;" } : Jvm.MethodName)).before a0 Z = true := hw _ (List.mem_of_getElem? (i := 32) rfl)
theorem wd_33 {Z : State} {a0 : Array Value} (hw : Hw Z a0) : (Jvm.Cond.castable "[I" "java/lang/Cloneable").before a0 Z = true := hw _ (List.mem_of_getElem? (i := 33) rfl)
theorem wd_34 {Z : State} {a0 : Array Value} (hw : Hw Z a0) : (Jvm.Cond.classLink "com/example/invariant/invariant/check/ConfigurationStore" (22 : Nat) "[I").before a0 Z = true := hw _ (List.mem_of_getElem? (i := 34) rfl)
theorem wd_36 {Z : State} {a0 : Array Value} (hw : Hw Z a0) : (Jvm.Cond.fieldLink "com/example/invariant/invariant/check/ConfigurationStore" (27 : Nat) "com/example/invariant/invariant/check/ConfigurationStore" "low" "[I").before a0 Z = true := hw _ (List.mem_of_getElem? (i := 36) rfl)
theorem wd_37 {Z : State} {a0 : Array Value} (hw : Hw Z a0) : (Jvm.Cond.laysFinal "com/example/invariant/invariant/check/ConfigurationStore" "com/example/invariant/invariant/check/ConfigurationStore" "low" "[I").before a0 Z = true := hw _ (List.mem_of_getElem? (i := 37) rfl)
theorem wd_38 {Z : State} {a0 : Array Value} (hw : Hw Z a0) : (Jvm.Cond.fieldLink "com/example/invariant/invariant/check/ConfigurationStore" (30 : Nat) "com/example/invariant/invariant/check/ConfigurationStore" "high" "[I").before a0 Z = true := hw _ (List.mem_of_getElem? (i := 38) rfl)
theorem wd_39 {Z : State} {a0 : Array Value} (hw : Hw Z a0) : (Jvm.Cond.laysFinal "com/example/invariant/invariant/check/ConfigurationStore" "com/example/invariant/invariant/check/ConfigurationStore" "high" "[I").before a0 Z = true := hw _ (List.mem_of_getElem? (i := 39) rfl)
theorem wd_40 {Z : State} {a0 : Array Value} (hw : Hw Z a0) : (Jvm.Cond.fieldLink "com/example/invariant/invariant/check/ConfigurationStore" (33 : Nat) "com/example/invariant/invariant/check/ConfigurationStore" "shift" "[I").before a0 Z = true := hw _ (List.mem_of_getElem? (i := 40) rfl)
theorem wd_41 {Z : State} {a0 : Array Value} (hw : Hw Z a0) : (Jvm.Cond.laysFinal "com/example/invariant/invariant/check/ConfigurationStore" "com/example/invariant/invariant/check/ConfigurationStore" "shift" "[I").before a0 Z = true := hw _ (List.mem_of_getElem? (i := 41) rfl)
theorem wd_42 {Z : State} {a0 : Array Value} (hw : Hw Z a0) : (Jvm.Cond.fieldLink "com/example/invariant/invariant/check/ConfigurationStore" (36 : Nat) "com/example/invariant/invariant/check/ConfigurationStore" "mask" "[J").before a0 Z = true := hw _ (List.mem_of_getElem? (i := 42) rfl)
theorem wd_43 {Z : State} {a0 : Array Value} (hw : Hw Z a0) : (Jvm.Cond.laysFinal "com/example/invariant/invariant/check/ConfigurationStore" "com/example/invariant/invariant/check/ConfigurationStore" "mask" "[J").before a0 Z = true := hw _ (List.mem_of_getElem? (i := 43) rfl)
theorem wd_44 {Z : State} {a0 : Array Value} (hw : Hw Z a0) : (Jvm.Cond.methodLink "com/example/invariant/invariant/check/ConfigurationStore" (41 : Nat) ({ cls := "java/lang/Long", name := "numberOfLeadingZeros", desc := "(J)I" } : Jvm.MethodName)).before a0 Z = true := hw _ (List.mem_of_getElem? (i := 44) rfl)
theorem wd_45 {Z : State} {a0 : Array Value} (hw : Hw Z a0) : (Jvm.Cond.static ({ cls := "java/lang/Long", name := "numberOfLeadingZeros", desc := "(J)I" } : Jvm.MethodName)).before a0 Z = true := hw _ (List.mem_of_getElem? (i := 45) rfl)
theorem wd_46 {Z : State} {a0 : Array Value} (hw : Hw Z a0) : (Jvm.Cond.initialized "java/lang/Long").before a0 Z = true := hw _ (List.mem_of_getElem? (i := 46) rfl)
theorem wd_47 {Z : State} {a0 : Array Value} (hw : Hw Z a0) : (Jvm.Cond.code ({ cls := "java/lang/Long", name := "numberOfLeadingZeros", desc := "(J)I" } : Jvm.MethodName) jdk_35_method_48_code (3 : Nat) (Option.some Jvm.ClassFile.FieldType.int)).before a0 Z = true := hw _ (List.mem_of_getElem? (i := 47) rfl)
theorem wd_48 {Z : State} {a0 : Array Value} (hw : Hw Z a0) : (Jvm.Cond.methodLink "java/lang/Long" (308 : Nat) ({ cls := "java/lang/Integer", name := "numberOfLeadingZeros", desc := "(I)I" } : Jvm.MethodName)).before a0 Z = true := hw _ (List.mem_of_getElem? (i := 48) rfl)
theorem wd_49 {Z : State} {a0 : Array Value} (hw : Hw Z a0) : (Jvm.Cond.static ({ cls := "java/lang/Integer", name := "numberOfLeadingZeros", desc := "(I)I" } : Jvm.MethodName)).before a0 Z = true := hw _ (List.mem_of_getElem? (i := 49) rfl)
theorem wd_50 {Z : State} {a0 : Array Value} (hw : Hw Z a0) : (Jvm.Cond.initialized "java/lang/Integer").before a0 Z = true := hw _ (List.mem_of_getElem? (i := 50) rfl)
theorem wd_51 {Z : State} {a0 : Array Value} (hw : Hw Z a0) : (Jvm.Cond.code ({ cls := "java/lang/Integer", name := "numberOfLeadingZeros", desc := "(I)I" } : Jvm.MethodName) jdk_33_method_47_code (2 : Nat) (Option.some Jvm.ClassFile.FieldType.int)).before a0 Z = true := hw _ (List.mem_of_getElem? (i := 51) rfl)
theorem wd_52 {Z : State} {a0 : Array Value} (hw : Hw Z a0) : (Jvm.Cond.constant "java/lang/Integer" (264 : Nat) (65536 : Int32)).before a0 Z = true := hw _ (List.mem_of_getElem? (i := 52) rfl)
theorem wd_53 {Z : State} {a0 : Array Value} (hw : Hw Z a0) : (Jvm.Cond.methodLink "com/example/invariant/invariant/check/ConfigurationStore" (45 : Nat) ({ cls := "java/util/Arrays", name := "copyOf", desc := "([II)[I" } : Jvm.MethodName)).before a0 Z = true := hw _ (List.mem_of_getElem? (i := 53) rfl)
theorem wd_54 {Z : State} {a0 : Array Value} (hw : Hw Z a0) : (Jvm.Cond.static ({ cls := "java/util/Arrays", name := "copyOf", desc := "([II)[I" } : Jvm.MethodName)).before a0 Z = true := hw _ (List.mem_of_getElem? (i := 54) rfl)
theorem wd_55 {Z : State} {a0 : Array Value} (hw : Hw Z a0) : (Jvm.Cond.initialized "java/util/Arrays").before a0 Z = true := hw _ (List.mem_of_getElem? (i := 55) rfl)
theorem wd_56 {Z : State} {a0 : Array Value} (hw : Hw Z a0) : (Jvm.Cond.code ({ cls := "java/util/Arrays", name := "copyOf", desc := "([II)[I" } : Jvm.MethodName) jdk_65_method_123_code (3 : Nat) (Option.some (Jvm.ClassFile.FieldType.array Jvm.ClassFile.FieldType.int))).before a0 Z = true := hw _ (List.mem_of_getElem? (i := 56) rfl)
theorem wd_57 {Z : State} {a0 : Array Value} (hw : Hw Z a0) : (Jvm.Cond.methodLink "java/util/Arrays" (304 : Nat) ({ cls := "java/lang/Math", name := "min", desc := "(II)I" } : Jvm.MethodName)).before a0 Z = true := hw _ (List.mem_of_getElem? (i := 57) rfl)
theorem wd_58 {Z : State} {a0 : Array Value} (hw : Hw Z a0) : (Jvm.Cond.methodLink "java/util/Arrays" (150 : Nat) ({ cls := "java/lang/System", name := "arraycopy", desc := "(Ljava/lang/Object;ILjava/lang/Object;II)V" } : Jvm.MethodName)).before a0 Z = true := hw _ (List.mem_of_getElem? (i := 58) rfl)
theorem wd_59 {Z : State} {a0 : Array Value} (hw : Hw Z a0) : (Jvm.Cond.static ({ cls := "java/lang/System", name := "arraycopy", desc := "(Ljava/lang/Object;ILjava/lang/Object;II)V" } : Jvm.MethodName)).before a0 Z = true := hw _ (List.mem_of_getElem? (i := 59) rfl)
theorem wd_60 {Z : State} {a0 : Array Value} (hw : Hw Z a0) : (Jvm.Cond.initialized "java/lang/System").before a0 Z = true := hw _ (List.mem_of_getElem? (i := 60) rfl)
theorem wd_61 {Z : State} {a0 : Array Value} (hw : Hw Z a0) : (Jvm.Cond.native ({ cls := "java/lang/System", name := "arraycopy", desc := "(Ljava/lang/Object;ILjava/lang/Object;II)V" } : Jvm.MethodName)).before a0 Z = true := hw _ (List.mem_of_getElem? (i := 61) rfl)
theorem wd_62 {Z : State} {a0 : Array Value} (hw : Hw Z a0) : (Jvm.Cond.fieldLink "com/example/invariant/invariant/check/ConfigurationStore" (51 : Nat) "com/example/invariant/invariant/check/ConfigurationStore" "firstInt" "[I").before a0 Z = true := hw _ (List.mem_of_getElem? (i := 62) rfl)
theorem wd_63 {Z : State} {a0 : Array Value} (hw : Hw Z a0) : (Jvm.Cond.laysFinal "com/example/invariant/invariant/check/ConfigurationStore" "com/example/invariant/invariant/check/ConfigurationStore" "firstInt" "[I").before a0 Z = true := hw _ (List.mem_of_getElem? (i := 63) rfl)
theorem wd_64 {Z : State} {a0 : Array Value} (hw : Hw Z a0) : (Jvm.Cond.fieldLink "com/example/invariant/invariant/check/ConfigurationStore" (54 : Nat) "com/example/invariant/invariant/check/ConfigurationStore" "words" "I").before a0 Z = true := hw _ (List.mem_of_getElem? (i := 64) rfl)
theorem wd_65 {Z : State} {a0 : Array Value} (hw : Hw Z a0) : (Jvm.Cond.laysFinal "com/example/invariant/invariant/check/ConfigurationStore" "com/example/invariant/invariant/check/ConfigurationStore" "words" "I").before a0 Z = true := hw _ (List.mem_of_getElem? (i := 65) rfl)
theorem wd_66 {Z : State} {a0 : Array Value} (hw : Hw Z a0) : (Jvm.Cond.fieldLink "com/example/invariant/invariant/check/ConfigurationStore" (58 : Nat) "com/example/invariant/invariant/check/ConfigurationStore" "keyMask" "[J").before a0 Z = true := hw _ (List.mem_of_getElem? (i := 66) rfl)
theorem wd_67 {Z : State} {a0 : Array Value} (hw : Hw Z a0) : (Jvm.Cond.laysFinal "com/example/invariant/invariant/check/ConfigurationStore" "com/example/invariant/invariant/check/ConfigurationStore" "keyMask" "[J").before a0 Z = true := hw _ (List.mem_of_getElem? (i := 67) rfl)
theorem wd_68 {Z : State} {a0 : Array Value} (hw : Hw Z a0) : (Jvm.Cond.constant "com/example/invariant/invariant/check/ConfigurationStore" (61 : Nat) (1048576 : Int32)).before a0 Z = true := hw _ (List.mem_of_getElem? (i := 68) rfl)
theorem wd_69 {Z : State} {a0 : Array Value} (hw : Hw Z a0) : (Jvm.Cond.methodLink "com/example/invariant/invariant/check/ConfigurationStore" (62 : Nat) ({ cls := "java/lang/Math", name := "max", desc := "(II)I" } : Jvm.MethodName)).before a0 Z = true := hw _ (List.mem_of_getElem? (i := 69) rfl)
theorem wd_70 {Z : State} {a0 : Array Value} (hw : Hw Z a0) : (Jvm.Cond.methodLink "com/example/invariant/invariant/check/ConfigurationStore" (68 : Nat) ({ cls := "java/lang/Integer", name := "numberOfLeadingZeros", desc := "(I)I" } : Jvm.MethodName)).before a0 Z = true := hw _ (List.mem_of_getElem? (i := 70) rfl)
theorem wd_71 {Z : State} {a0 : Array Value} (hw : Hw Z a0) : (Jvm.Cond.fieldLink "com/example/invariant/invariant/check/ConfigurationStore" (73 : Nat) "com/example/invariant/invariant/check/ConfigurationStore" "pageShift" "I").before a0 Z = true := hw _ (List.mem_of_getElem? (i := 71) rfl)
theorem wd_72 {Z : State} {a0 : Array Value} (hw : Hw Z a0) : (Jvm.Cond.laysFinal "com/example/invariant/invariant/check/ConfigurationStore" "com/example/invariant/invariant/check/ConfigurationStore" "pageShift" "I").before a0 Z = true := hw _ (List.mem_of_getElem? (i := 72) rfl)
theorem wd_73 {Z : State} {a0 : Array Value} (hw : Hw Z a0) : (Jvm.Cond.fieldLink "com/example/invariant/invariant/check/ConfigurationStore" (76 : Nat) "com/example/invariant/invariant/check/ConfigurationStore" "packed" "[J").before a0 Z = true := hw _ (List.mem_of_getElem? (i := 73) rfl)
theorem wd_74 {Z : State} {a0 : Array Value} (hw : Hw Z a0) : (Jvm.Cond.laysFinal "com/example/invariant/invariant/check/ConfigurationStore" "com/example/invariant/invariant/check/ConfigurationStore" "packed" "[J").before a0 Z = true := hw _ (List.mem_of_getElem? (i := 74) rfl)
theorem wd_75 {Z : State} {a0 : Array Value} (hw : Hw Z a0) : (Jvm.Cond.methodLink "com/example/invariant/invariant/check/ConfigurationStoreCopyPinLaw" (27 : Nat) ({ cls := "com/example/invariant/invariant/check/ConfigurationStore", name := "add", desc := "([I)I" } : Jvm.MethodName)).before a0 Z = true := hw _ (List.mem_of_getElem? (i := 75) rfl)
theorem wd_76 {Z : State} {a0 : Array Value} (hw : Hw Z a0) : (Jvm.Cond.declares ({ cls := "com/example/invariant/invariant/check/ConfigurationStore", name := "add", desc := "([I)I" } : Jvm.MethodName)).before a0 Z = true := hw _ (List.mem_of_getElem? (i := 76) rfl)
theorem wd_77 {Z : State} {a0 : Array Value} (hw : Hw Z a0) : (Jvm.Cond.instanceMethod ({ cls := "com/example/invariant/invariant/check/ConfigurationStore", name := "add", desc := "([I)I" } : Jvm.MethodName)).before a0 Z = true := hw _ (List.mem_of_getElem? (i := 77) rfl)
theorem wd_78 {Z : State} {a0 : Array Value} (hw : Hw Z a0) : (Jvm.Cond.selects "com/example/invariant/invariant/check/ConfigurationStore" ({ cls := "com/example/invariant/invariant/check/ConfigurationStore", name := "add", desc := "([I)I" } : Jvm.MethodName) ({ cls := "com/example/invariant/invariant/check/ConfigurationStore", name := "add", desc := "([I)I" } : Jvm.MethodName)).before a0 Z = true := hw _ (List.mem_of_getElem? (i := 78) rfl)
theorem wd_79 {Z : State} {a0 : Array Value} (hw : Hw Z a0) : (Jvm.Cond.code ({ cls := "com/example/invariant/invariant/check/ConfigurationStore", name := "add", desc := "([I)I" } : Jvm.MethodName) prog_52_method_7_code (2 : Nat) (Option.some Jvm.ClassFile.FieldType.int)).before a0 Z = true := hw _ (List.mem_of_getElem? (i := 79) rfl)
theorem wd_80 {Z : State} {a0 : Array Value} (hw : Hw Z a0) : (Jvm.Cond.methodLink "com/example/invariant/invariant/check/ConfigurationStore" (98 : Nat) ({ cls := "com/example/invariant/invariant/check/ConfigurationStore", name := "add", desc := "([ILjava/util/function/IntPredicate;)I" } : Jvm.MethodName)).before a0 Z = true := hw _ (List.mem_of_getElem? (i := 80) rfl)
theorem wd_81 {Z : State} {a0 : Array Value} (hw : Hw Z a0) : (Jvm.Cond.declares ({ cls := "com/example/invariant/invariant/check/ConfigurationStore", name := "add", desc := "([ILjava/util/function/IntPredicate;)I" } : Jvm.MethodName)).before a0 Z = true := hw _ (List.mem_of_getElem? (i := 81) rfl)
theorem wd_82 {Z : State} {a0 : Array Value} (hw : Hw Z a0) : (Jvm.Cond.instanceMethod ({ cls := "com/example/invariant/invariant/check/ConfigurationStore", name := "add", desc := "([ILjava/util/function/IntPredicate;)I" } : Jvm.MethodName)).before a0 Z = true := hw _ (List.mem_of_getElem? (i := 82) rfl)
theorem wd_83 {Z : State} {a0 : Array Value} (hw : Hw Z a0) : (Jvm.Cond.selects "com/example/invariant/invariant/check/ConfigurationStore" ({ cls := "com/example/invariant/invariant/check/ConfigurationStore", name := "add", desc := "([ILjava/util/function/IntPredicate;)I" } : Jvm.MethodName) ({ cls := "com/example/invariant/invariant/check/ConfigurationStore", name := "add", desc := "([ILjava/util/function/IntPredicate;)I" } : Jvm.MethodName)).before a0 Z = true := hw _ (List.mem_of_getElem? (i := 83) rfl)
theorem wd_84 {Z : State} {a0 : Array Value} (hw : Hw Z a0) : (Jvm.Cond.code ({ cls := "com/example/invariant/invariant/check/ConfigurationStore", name := "add", desc := "([ILjava/util/function/IntPredicate;)I" } : Jvm.MethodName) prog_52_method_8_code (8 : Nat) (Option.some Jvm.ClassFile.FieldType.int)).before a0 Z = true := hw _ (List.mem_of_getElem? (i := 84) rfl)
theorem wd_85 {Z : State} {a0 : Array Value} (hw : Hw Z a0) : (Jvm.Cond.methodLink "com/example/invariant/invariant/check/ConfigurationStore" (87 : Nat) ({ cls := "com/example/invariant/invariant/check/ConfigurationStore", name := "pack", desc := "([I)I" } : Jvm.MethodName)).before a0 Z = true := hw _ (List.mem_of_getElem? (i := 85) rfl)
theorem wd_86 {Z : State} {a0 : Array Value} (hw : Hw Z a0) : (Jvm.Cond.instanceMethod ({ cls := "com/example/invariant/invariant/check/ConfigurationStore", name := "pack", desc := "([I)I" } : Jvm.MethodName)).before a0 Z = true := hw _ (List.mem_of_getElem? (i := 86) rfl)
theorem wd_87 {Z : State} {a0 : Array Value} (hw : Hw Z a0) : (Jvm.Cond.privateMethod ({ cls := "com/example/invariant/invariant/check/ConfigurationStore", name := "pack", desc := "([I)I" } : Jvm.MethodName)).before a0 Z = true := hw _ (List.mem_of_getElem? (i := 87) rfl)
theorem wd_88 {Z : State} {a0 : Array Value} (hw : Hw Z a0) : (Jvm.Cond.code ({ cls := "com/example/invariant/invariant/check/ConfigurationStore", name := "pack", desc := "([I)I" } : Jvm.MethodName) prog_52_method_14_code (9 : Nat) (Option.some Jvm.ClassFile.FieldType.int)).before a0 Z = true := hw _ (List.mem_of_getElem? (i := 88) rfl)
theorem wd_89 {Z : State} {a0 : Array Value} (hw : Hw Z a0) : (Jvm.Cond.constantLong "com/example/invariant/invariant/check/ConfigurationStore" (154 : Nat) (-7046029254386353131 : Int64)).before a0 Z = true := hw _ (List.mem_of_getElem? (i := 89) rfl)
theorem wd_90 {Z : State} {a0 : Array Value} (hw : Hw Z a0) : (Jvm.Cond.constantLong "com/example/invariant/invariant/check/ConfigurationStore" (156 : Nat) (-49064778989728563 : Int64)).before a0 Z = true := hw _ (List.mem_of_getElem? (i := 90) rfl)
theorem wd_91 {Z : State} {a0 : Array Value} (hw : Hw Z a0) : (Jvm.Cond.methodLink "com/example/invariant/invariant/check/ConfigurationStore" (91 : Nat) ({ cls := "com/example/invariant/invariant/check/ConfigurationStore", name := "slot", desc := "(I)I" } : Jvm.MethodName)).before a0 Z = true := hw _ (List.mem_of_getElem? (i := 91) rfl)
theorem wd_92 {Z : State} {a0 : Array Value} (hw : Hw Z a0) : (Jvm.Cond.instanceMethod ({ cls := "com/example/invariant/invariant/check/ConfigurationStore", name := "slot", desc := "(I)I" } : Jvm.MethodName)).before a0 Z = true := hw _ (List.mem_of_getElem? (i := 92) rfl)
theorem wd_93 {Z : State} {a0 : Array Value} (hw : Hw Z a0) : (Jvm.Cond.privateMethod ({ cls := "com/example/invariant/invariant/check/ConfigurationStore", name := "slot", desc := "(I)I" } : Jvm.MethodName)).before a0 Z = true := hw _ (List.mem_of_getElem? (i := 93) rfl)
theorem wd_94 {Z : State} {a0 : Array Value} (hw : Hw Z a0) : (Jvm.Cond.code ({ cls := "com/example/invariant/invariant/check/ConfigurationStore", name := "slot", desc := "(I)I" } : Jvm.MethodName) prog_52_method_15_code (4 : Nat) (Option.some Jvm.ClassFile.FieldType.int)).before a0 Z = true := hw _ (List.mem_of_getElem? (i := 94) rfl)
theorem wd_95 {Z : State} {a0 : Array Value} (hw : Hw Z a0) : (Jvm.Cond.methodLink "com/example/invariant/invariant/check/ConfigurationStore" (94 : Nat) ({ cls := "com/example/invariant/invariant/check/ConfigurationStore", name := "holder", desc := "(ILjava/util/function/IntPredicate;)I" } : Jvm.MethodName)).before a0 Z = true := hw _ (List.mem_of_getElem? (i := 95) rfl)
theorem wd_96 {Z : State} {a0 : Array Value} (hw : Hw Z a0) : (Jvm.Cond.instanceMethod ({ cls := "com/example/invariant/invariant/check/ConfigurationStore", name := "holder", desc := "(ILjava/util/function/IntPredicate;)I" } : Jvm.MethodName)).before a0 Z = true := hw _ (List.mem_of_getElem? (i := 96) rfl)
theorem wd_97 {Z : State} {a0 : Array Value} (hw : Hw Z a0) : (Jvm.Cond.privateMethod ({ cls := "com/example/invariant/invariant/check/ConfigurationStore", name := "holder", desc := "(ILjava/util/function/IntPredicate;)I" } : Jvm.MethodName)).before a0 Z = true := hw _ (List.mem_of_getElem? (i := 97) rfl)
theorem wd_98 {Z : State} {a0 : Array Value} (hw : Hw Z a0) : (Jvm.Cond.code ({ cls := "com/example/invariant/invariant/check/ConfigurationStore", name := "holder", desc := "(ILjava/util/function/IntPredicate;)I" } : Jvm.MethodName) prog_52_method_10_code (8 : Nat) (Option.some Jvm.ClassFile.FieldType.int)).before a0 Z = true := hw _ (List.mem_of_getElem? (i := 98) rfl)
theorem wd_99 {Z : State} {a0 : Array Value} (hw : Hw Z a0) : (Jvm.Cond.fieldLink "com/example/invariant/invariant/check/ConfigurationStore" (80 : Nat) "com/example/invariant/invariant/check/ConfigurationStore" "size" "I").before a0 Z = true := hw _ (List.mem_of_getElem? (i := 99) rfl)
theorem wd_100 {Z : State} {a0 : Array Value} (hw : Hw Z a0) : (Jvm.Cond.lays "com/example/invariant/invariant/check/ConfigurationStore" "com/example/invariant/invariant/check/ConfigurationStore" "size" "I").before a0 Z = true := hw _ (List.mem_of_getElem? (i := 100) rfl)
theorem wd_101 {Z : State} {a0 : Array Value} (hw : Hw Z a0) : (Jvm.Cond.methodLink "com/example/invariant/invariant/check/ConfigurationStore" (101 : Nat) ({ cls := "com/example/invariant/invariant/check/ConfigurationStore", name := "capacity", desc := "()I" } : Jvm.MethodName)).before a0 Z = true := hw _ (List.mem_of_getElem? (i := 101) rfl)
theorem wd_102 {Z : State} {a0 : Array Value} (hw : Hw Z a0) : (Jvm.Cond.declares ({ cls := "com/example/invariant/invariant/check/ConfigurationStore", name := "capacity", desc := "()I" } : Jvm.MethodName)).before a0 Z = true := hw _ (List.mem_of_getElem? (i := 102) rfl)
theorem wd_103 {Z : State} {a0 : Array Value} (hw : Hw Z a0) : (Jvm.Cond.instanceMethod ({ cls := "com/example/invariant/invariant/check/ConfigurationStore", name := "capacity", desc := "()I" } : Jvm.MethodName)).before a0 Z = true := hw _ (List.mem_of_getElem? (i := 103) rfl)
theorem wd_104 {Z : State} {a0 : Array Value} (hw : Hw Z a0) : (Jvm.Cond.selects "com/example/invariant/invariant/check/ConfigurationStore" ({ cls := "com/example/invariant/invariant/check/ConfigurationStore", name := "capacity", desc := "()I" } : Jvm.MethodName) ({ cls := "com/example/invariant/invariant/check/ConfigurationStore", name := "capacity", desc := "()I" } : Jvm.MethodName)).before a0 Z = true := hw _ (List.mem_of_getElem? (i := 104) rfl)
theorem wd_105 {Z : State} {a0 : Array Value} (hw : Hw Z a0) : (Jvm.Cond.code ({ cls := "com/example/invariant/invariant/check/ConfigurationStore", name := "capacity", desc := "()I" } : Jvm.MethodName) prog_52_method_3_code (1 : Nat) (Option.some Jvm.ClassFile.FieldType.int)).before a0 Z = true := hw _ (List.mem_of_getElem? (i := 105) rfl)
theorem wd_106 {Z : State} {a0 : Array Value} (hw : Hw Z a0) : (Jvm.Cond.constant "com/example/invariant/invariant/check/ConfigurationStore" (79 : Nat) (536870912 : Int32)).before a0 Z = true := hw _ (List.mem_of_getElem? (i := 106) rfl)
theorem wd_107 {Z : State} {a0 : Array Value} (hw : Hw Z a0) : (Jvm.Cond.methodLink "com/example/invariant/invariant/check/ConfigurationStore" (114 : Nat) ({ cls := "com/example/invariant/invariant/check/ConfigurationStore", name := "makeRoom", desc := "(II)V" } : Jvm.MethodName)).before a0 Z = true := hw _ (List.mem_of_getElem? (i := 107) rfl)
theorem wd_108 {Z : State} {a0 : Array Value} (hw : Hw Z a0) : (Jvm.Cond.instanceMethod ({ cls := "com/example/invariant/invariant/check/ConfigurationStore", name := "makeRoom", desc := "(II)V" } : Jvm.MethodName)).before a0 Z = true := hw _ (List.mem_of_getElem? (i := 108) rfl)
theorem wd_109 {Z : State} {a0 : Array Value} (hw : Hw Z a0) : (Jvm.Cond.privateMethod ({ cls := "com/example/invariant/invariant/check/ConfigurationStore", name := "makeRoom", desc := "(II)V" } : Jvm.MethodName)).before a0 Z = true := hw _ (List.mem_of_getElem? (i := 109) rfl)
theorem wd_110 {Z : State} {a0 : Array Value} (hw : Hw Z a0) : (Jvm.Cond.code ({ cls := "com/example/invariant/invariant/check/ConfigurationStore", name := "makeRoom", desc := "(II)V" } : Jvm.MethodName) prog_52_method_13_code (7 : Nat) (Option.none : Option Jvm.ClassFile.FieldType)).before a0 Z = true := hw _ (List.mem_of_getElem? (i := 110) rfl)
theorem wd_111 {Z : State} {a0 : Array Value} (hw : Hw Z a0) : (Jvm.Cond.methodLink "com/example/invariant/invariant/check/ConfigurationStore" (138 : Nat) ({ cls := "java/lang/Math", name := "min", desc := "(II)I" } : Jvm.MethodName)).before a0 Z = true := hw _ (List.mem_of_getElem? (i := 111) rfl)
theorem wd_113 {Z : State} {a0 : Array Value} (hw : Hw Z a0) : (Jvm.Cond.methodLink "com/example/invariant/invariant/check/ConfigurationStore" (118 : Nat) ({ cls := "java/lang/System", name := "arraycopy", desc := "(Ljava/lang/Object;ILjava/lang/Object;II)V" } : Jvm.MethodName)).before a0 Z = true := hw _ (List.mem_of_getElem? (i := 113) rfl)
theorem wd_114 {Z : State} {a0 : Array Value} (hw : Hw Z a0) : (Jvm.Cond.constantLong "com/example/invariant/invariant/check/ConfigurationStore" (124 : Nat) (2 : Int64)).before a0 Z = true := hw _ (List.mem_of_getElem? (i := 114) rfl)
theorem wd_115 {Z : State} {a0 : Array Value} (hw : Hw Z a0) : (Jvm.Cond.methodLink "com/example/invariant/invariant/check/ConfigurationStore" (158 : Nat) ({ cls := "com/example/invariant/invariant/check/ConfigurationStore", name := "holdsPacked", desc := "(JI)Z" } : Jvm.MethodName)).before a0 Z = true := hw _ (List.mem_of_getElem? (i := 115) rfl)
theorem wd_116 {Z : State} {a0 : Array Value} (hw : Hw Z a0) : (Jvm.Cond.instanceMethod ({ cls := "com/example/invariant/invariant/check/ConfigurationStore", name := "holdsPacked", desc := "(JI)Z" } : Jvm.MethodName)).before a0 Z = true := hw _ (List.mem_of_getElem? (i := 116) rfl)
theorem wd_117 {Z : State} {a0 : Array Value} (hw : Hw Z a0) : (Jvm.Cond.privateMethod ({ cls := "com/example/invariant/invariant/check/ConfigurationStore", name := "holdsPacked", desc := "(JI)Z" } : Jvm.MethodName)).before a0 Z = true := hw _ (List.mem_of_getElem? (i := 117) rfl)
theorem wd_118 {Z : State} {a0 : Array Value} (hw : Hw Z a0) : (Jvm.Cond.code ({ cls := "com/example/invariant/invariant/check/ConfigurationStore", name := "holdsPacked", desc := "(JI)Z" } : Jvm.MethodName) prog_52_method_16_code (8 : Nat) (Option.some Jvm.ClassFile.FieldType.boolean)).before a0 Z = true := hw _ (List.mem_of_getElem? (i := 118) rfl)
theorem wd_119 {Z : State} {a0 : Array Value} (hw : Hw Z a0) : (Jvm.Cond.methodLink "com/example/invariant/invariant/check/ConfigurationStoreCopyPinLaw" (31 : Nat) site_346).before a0 Z = true := hw _ (List.mem_of_getElem? (i := 119) rfl)
theorem wd_120 {Z : State} {a0 : Array Value} (hw : Hw Z a0) : (Jvm.Cond.declares site_346).before a0 Z = true := hw _ (List.mem_of_getElem? (i := 120) rfl)
theorem wd_121 {Z : State} {a0 : Array Value} (hw : Hw Z a0) : (Jvm.Cond.instanceMethod site_346).before a0 Z = true := hw _ (List.mem_of_getElem? (i := 121) rfl)
theorem wd_122 {Z : State} {a0 : Array Value} (hw : Hw Z a0) : (Jvm.Cond.selects "com/example/invariant/invariant/check/ConfigurationStore" site_346 site_346).before a0 Z = true := hw _ (List.mem_of_getElem? (i := 122) rfl)
theorem wd_123 {Z : State} {a0 : Array Value} (hw : Hw Z a0) : (Jvm.Cond.code site_346 prog_52_method_11_code (1 : Nat) (Option.none : Option Jvm.ClassFile.FieldType)).before a0 Z = true := hw _ (List.mem_of_getElem? (i := 123) rfl)
theorem wd_124 {Z : State} {a0 : Array Value} (hw : Hw Z a0) : (Jvm.Cond.methodLink "com/example/invariant/invariant/check/ConfigurationStoreCopyPinLaw" (34 : Nat) ({ cls := "com/example/invariant/invariant/check/ConfigurationStore", name := "copy", desc := "(I[I)V" } : Jvm.MethodName)).before a0 Z = true := hw _ (List.mem_of_getElem? (i := 124) rfl)
theorem wd_125 {Z : State} {a0 : Array Value} (hw : Hw Z a0) : (Jvm.Cond.declares ({ cls := "com/example/invariant/invariant/check/ConfigurationStore", name := "copy", desc := "(I[I)V" } : Jvm.MethodName)).before a0 Z = true := hw _ (List.mem_of_getElem? (i := 125) rfl)
theorem wd_126 {Z : State} {a0 : Array Value} (hw : Hw Z a0) : (Jvm.Cond.instanceMethod ({ cls := "com/example/invariant/invariant/check/ConfigurationStore", name := "copy", desc := "(I[I)V" } : Jvm.MethodName)).before a0 Z = true := hw _ (List.mem_of_getElem? (i := 126) rfl)
theorem wd_127 {Z : State} {a0 : Array Value} (hw : Hw Z a0) : (Jvm.Cond.selects "com/example/invariant/invariant/check/ConfigurationStore" ({ cls := "com/example/invariant/invariant/check/ConfigurationStore", name := "copy", desc := "(I[I)V" } : Jvm.MethodName) ({ cls := "com/example/invariant/invariant/check/ConfigurationStore", name := "copy", desc := "(I[I)V" } : Jvm.MethodName)).before a0 Z = true := hw _ (List.mem_of_getElem? (i := 127) rfl)
theorem wd_128 {Z : State} {a0 : Array Value} (hw : Hw Z a0) : (Jvm.Cond.code ({ cls := "com/example/invariant/invariant/check/ConfigurationStore", name := "copy", desc := "(I[I)V" } : Jvm.MethodName) prog_52_method_12_code (9 : Nat) (Option.none : Option Jvm.ClassFile.FieldType)).before a0 Z = true := hw _ (List.mem_of_getElem? (i := 128) rfl)
abbrev Kn0 : String := "com/example/invariant/invariant/check/ConfigurationStore"
theorem sn_0 {Z : State} {a0 : Array Value} (hw : Hw Z a0) : Jvm.RoadKit.slotOf Z Kn0 "table" "[J" ≠ Jvm.RoadKit.slotOf Z Kn0 "pages" "[[J" := slot_ne (a0 := a0) (C := Kn0) (Or.inl (wd_26 hw)) (Or.inl (wd_23 hw)) (by decide) (t := (.array .long)) (t' := (.array (.array .long))) (by decide) (by decide)
theorem sn_1 {Z : State} {a0 : Array Value} (hw : Hw Z a0) : Jvm.RoadKit.slotOf Z Kn0 "low" "[I" ≠ Jvm.RoadKit.slotOf Z Kn0 "pages" "[[J" := slot_ne (a0 := a0) (C := Kn0) (Or.inr (wd_37 hw)) (Or.inl (wd_23 hw)) (by decide) (t := (.array .int)) (t' := (.array (.array .long))) (by decide) (by decide)
theorem sn_2 {Z : State} {a0 : Array Value} (hw : Hw Z a0) : Jvm.RoadKit.slotOf Z Kn0 "low" "[I" ≠ Jvm.RoadKit.slotOf Z Kn0 "table" "[J" := slot_ne (a0 := a0) (C := Kn0) (Or.inr (wd_37 hw)) (Or.inl (wd_26 hw)) (by decide) (t := (.array .int)) (t' := (.array .long)) (by decide) (by decide)
theorem sn_3 {Z : State} {a0 : Array Value} (hw : Hw Z a0) : Jvm.RoadKit.slotOf Z Kn0 "high" "[I" ≠ Jvm.RoadKit.slotOf Z Kn0 "pages" "[[J" := slot_ne (a0 := a0) (C := Kn0) (Or.inr (wd_39 hw)) (Or.inl (wd_23 hw)) (by decide) (t := (.array .int)) (t' := (.array (.array .long))) (by decide) (by decide)
theorem sn_4 {Z : State} {a0 : Array Value} (hw : Hw Z a0) : Jvm.RoadKit.slotOf Z Kn0 "high" "[I" ≠ Jvm.RoadKit.slotOf Z Kn0 "table" "[J" := slot_ne (a0 := a0) (C := Kn0) (Or.inr (wd_39 hw)) (Or.inl (wd_26 hw)) (by decide) (t := (.array .int)) (t' := (.array .long)) (by decide) (by decide)
theorem sn_5 {Z : State} {a0 : Array Value} (hw : Hw Z a0) : Jvm.RoadKit.slotOf Z Kn0 "high" "[I" ≠ Jvm.RoadKit.slotOf Z Kn0 "low" "[I" := slot_ne (a0 := a0) (C := Kn0) (Or.inr (wd_39 hw)) (Or.inr (wd_37 hw)) (by decide) (t := (.array .int)) (t' := (.array .int)) (by decide) (by decide)
theorem sn_6 {Z : State} {a0 : Array Value} (hw : Hw Z a0) : Jvm.RoadKit.slotOf Z Kn0 "shift" "[I" ≠ Jvm.RoadKit.slotOf Z Kn0 "pages" "[[J" := slot_ne (a0 := a0) (C := Kn0) (Or.inr (wd_41 hw)) (Or.inl (wd_23 hw)) (by decide) (t := (.array .int)) (t' := (.array (.array .long))) (by decide) (by decide)
theorem sn_7 {Z : State} {a0 : Array Value} (hw : Hw Z a0) : Jvm.RoadKit.slotOf Z Kn0 "shift" "[I" ≠ Jvm.RoadKit.slotOf Z Kn0 "table" "[J" := slot_ne (a0 := a0) (C := Kn0) (Or.inr (wd_41 hw)) (Or.inl (wd_26 hw)) (by decide) (t := (.array .int)) (t' := (.array .long)) (by decide) (by decide)
theorem sn_8 {Z : State} {a0 : Array Value} (hw : Hw Z a0) : Jvm.RoadKit.slotOf Z Kn0 "shift" "[I" ≠ Jvm.RoadKit.slotOf Z Kn0 "low" "[I" := slot_ne (a0 := a0) (C := Kn0) (Or.inr (wd_41 hw)) (Or.inr (wd_37 hw)) (by decide) (t := (.array .int)) (t' := (.array .int)) (by decide) (by decide)
theorem sn_9 {Z : State} {a0 : Array Value} (hw : Hw Z a0) : Jvm.RoadKit.slotOf Z Kn0 "shift" "[I" ≠ Jvm.RoadKit.slotOf Z Kn0 "high" "[I" := slot_ne (a0 := a0) (C := Kn0) (Or.inr (wd_41 hw)) (Or.inr (wd_39 hw)) (by decide) (t := (.array .int)) (t' := (.array .int)) (by decide) (by decide)
theorem sn_10 {Z : State} {a0 : Array Value} (hw : Hw Z a0) : Jvm.RoadKit.slotOf Z Kn0 "mask" "[J" ≠ Jvm.RoadKit.slotOf Z Kn0 "pages" "[[J" := slot_ne (a0 := a0) (C := Kn0) (Or.inr (wd_43 hw)) (Or.inl (wd_23 hw)) (by decide) (t := (.array .long)) (t' := (.array (.array .long))) (by decide) (by decide)
theorem sn_11 {Z : State} {a0 : Array Value} (hw : Hw Z a0) : Jvm.RoadKit.slotOf Z Kn0 "mask" "[J" ≠ Jvm.RoadKit.slotOf Z Kn0 "table" "[J" := slot_ne (a0 := a0) (C := Kn0) (Or.inr (wd_43 hw)) (Or.inl (wd_26 hw)) (by decide) (t := (.array .long)) (t' := (.array .long)) (by decide) (by decide)
theorem sn_12 {Z : State} {a0 : Array Value} (hw : Hw Z a0) : Jvm.RoadKit.slotOf Z Kn0 "mask" "[J" ≠ Jvm.RoadKit.slotOf Z Kn0 "low" "[I" := slot_ne (a0 := a0) (C := Kn0) (Or.inr (wd_43 hw)) (Or.inr (wd_37 hw)) (by decide) (t := (.array .long)) (t' := (.array .int)) (by decide) (by decide)
theorem sn_13 {Z : State} {a0 : Array Value} (hw : Hw Z a0) : Jvm.RoadKit.slotOf Z Kn0 "mask" "[J" ≠ Jvm.RoadKit.slotOf Z Kn0 "high" "[I" := slot_ne (a0 := a0) (C := Kn0) (Or.inr (wd_43 hw)) (Or.inr (wd_39 hw)) (by decide) (t := (.array .long)) (t' := (.array .int)) (by decide) (by decide)
theorem sn_14 {Z : State} {a0 : Array Value} (hw : Hw Z a0) : Jvm.RoadKit.slotOf Z Kn0 "mask" "[J" ≠ Jvm.RoadKit.slotOf Z Kn0 "shift" "[I" := slot_ne (a0 := a0) (C := Kn0) (Or.inr (wd_43 hw)) (Or.inr (wd_41 hw)) (by decide) (t := (.array .long)) (t' := (.array .int)) (by decide) (by decide)
theorem sn_15 {Z : State} {a0 : Array Value} (hw : Hw Z a0) : Jvm.RoadKit.slotOf Z Kn0 "firstInt" "[I" ≠ Jvm.RoadKit.slotOf Z Kn0 "pages" "[[J" := slot_ne (a0 := a0) (C := Kn0) (Or.inr (wd_63 hw)) (Or.inl (wd_23 hw)) (by decide) (t := (.array .int)) (t' := (.array (.array .long))) (by decide) (by decide)
theorem sn_16 {Z : State} {a0 : Array Value} (hw : Hw Z a0) : Jvm.RoadKit.slotOf Z Kn0 "firstInt" "[I" ≠ Jvm.RoadKit.slotOf Z Kn0 "table" "[J" := slot_ne (a0 := a0) (C := Kn0) (Or.inr (wd_63 hw)) (Or.inl (wd_26 hw)) (by decide) (t := (.array .int)) (t' := (.array .long)) (by decide) (by decide)
theorem sn_17 {Z : State} {a0 : Array Value} (hw : Hw Z a0) : Jvm.RoadKit.slotOf Z Kn0 "firstInt" "[I" ≠ Jvm.RoadKit.slotOf Z Kn0 "low" "[I" := slot_ne (a0 := a0) (C := Kn0) (Or.inr (wd_63 hw)) (Or.inr (wd_37 hw)) (by decide) (t := (.array .int)) (t' := (.array .int)) (by decide) (by decide)
theorem sn_18 {Z : State} {a0 : Array Value} (hw : Hw Z a0) : Jvm.RoadKit.slotOf Z Kn0 "firstInt" "[I" ≠ Jvm.RoadKit.slotOf Z Kn0 "high" "[I" := slot_ne (a0 := a0) (C := Kn0) (Or.inr (wd_63 hw)) (Or.inr (wd_39 hw)) (by decide) (t := (.array .int)) (t' := (.array .int)) (by decide) (by decide)
theorem sn_19 {Z : State} {a0 : Array Value} (hw : Hw Z a0) : Jvm.RoadKit.slotOf Z Kn0 "firstInt" "[I" ≠ Jvm.RoadKit.slotOf Z Kn0 "shift" "[I" := slot_ne (a0 := a0) (C := Kn0) (Or.inr (wd_63 hw)) (Or.inr (wd_41 hw)) (by decide) (t := (.array .int)) (t' := (.array .int)) (by decide) (by decide)
theorem sn_20 {Z : State} {a0 : Array Value} (hw : Hw Z a0) : Jvm.RoadKit.slotOf Z Kn0 "firstInt" "[I" ≠ Jvm.RoadKit.slotOf Z Kn0 "mask" "[J" := slot_ne (a0 := a0) (C := Kn0) (Or.inr (wd_63 hw)) (Or.inr (wd_43 hw)) (by decide) (t := (.array .int)) (t' := (.array .long)) (by decide) (by decide)
theorem sn_21 {Z : State} {a0 : Array Value} (hw : Hw Z a0) : Jvm.RoadKit.slotOf Z Kn0 "words" "I" ≠ Jvm.RoadKit.slotOf Z Kn0 "pages" "[[J" := slot_ne (a0 := a0) (C := Kn0) (Or.inr (wd_65 hw)) (Or.inl (wd_23 hw)) (by decide) (t := .int) (t' := (.array (.array .long))) (by decide) (by decide)
theorem sn_22 {Z : State} {a0 : Array Value} (hw : Hw Z a0) : Jvm.RoadKit.slotOf Z Kn0 "words" "I" ≠ Jvm.RoadKit.slotOf Z Kn0 "table" "[J" := slot_ne (a0 := a0) (C := Kn0) (Or.inr (wd_65 hw)) (Or.inl (wd_26 hw)) (by decide) (t := .int) (t' := (.array .long)) (by decide) (by decide)
theorem sn_23 {Z : State} {a0 : Array Value} (hw : Hw Z a0) : Jvm.RoadKit.slotOf Z Kn0 "words" "I" ≠ Jvm.RoadKit.slotOf Z Kn0 "low" "[I" := slot_ne (a0 := a0) (C := Kn0) (Or.inr (wd_65 hw)) (Or.inr (wd_37 hw)) (by decide) (t := .int) (t' := (.array .int)) (by decide) (by decide)
theorem sn_24 {Z : State} {a0 : Array Value} (hw : Hw Z a0) : Jvm.RoadKit.slotOf Z Kn0 "words" "I" ≠ Jvm.RoadKit.slotOf Z Kn0 "high" "[I" := slot_ne (a0 := a0) (C := Kn0) (Or.inr (wd_65 hw)) (Or.inr (wd_39 hw)) (by decide) (t := .int) (t' := (.array .int)) (by decide) (by decide)
theorem sn_25 {Z : State} {a0 : Array Value} (hw : Hw Z a0) : Jvm.RoadKit.slotOf Z Kn0 "words" "I" ≠ Jvm.RoadKit.slotOf Z Kn0 "shift" "[I" := slot_ne (a0 := a0) (C := Kn0) (Or.inr (wd_65 hw)) (Or.inr (wd_41 hw)) (by decide) (t := .int) (t' := (.array .int)) (by decide) (by decide)
theorem sn_26 {Z : State} {a0 : Array Value} (hw : Hw Z a0) : Jvm.RoadKit.slotOf Z Kn0 "words" "I" ≠ Jvm.RoadKit.slotOf Z Kn0 "mask" "[J" := slot_ne (a0 := a0) (C := Kn0) (Or.inr (wd_65 hw)) (Or.inr (wd_43 hw)) (by decide) (t := .int) (t' := (.array .long)) (by decide) (by decide)
theorem sn_27 {Z : State} {a0 : Array Value} (hw : Hw Z a0) : Jvm.RoadKit.slotOf Z Kn0 "words" "I" ≠ Jvm.RoadKit.slotOf Z Kn0 "firstInt" "[I" := slot_ne (a0 := a0) (C := Kn0) (Or.inr (wd_65 hw)) (Or.inr (wd_63 hw)) (by decide) (t := .int) (t' := (.array .int)) (by decide) (by decide)
theorem sn_28 {Z : State} {a0 : Array Value} (hw : Hw Z a0) : Jvm.RoadKit.slotOf Z Kn0 "keyMask" "[J" ≠ Jvm.RoadKit.slotOf Z Kn0 "pages" "[[J" := slot_ne (a0 := a0) (C := Kn0) (Or.inr (wd_67 hw)) (Or.inl (wd_23 hw)) (by decide) (t := (.array .long)) (t' := (.array (.array .long))) (by decide) (by decide)
theorem sn_29 {Z : State} {a0 : Array Value} (hw : Hw Z a0) : Jvm.RoadKit.slotOf Z Kn0 "keyMask" "[J" ≠ Jvm.RoadKit.slotOf Z Kn0 "table" "[J" := slot_ne (a0 := a0) (C := Kn0) (Or.inr (wd_67 hw)) (Or.inl (wd_26 hw)) (by decide) (t := (.array .long)) (t' := (.array .long)) (by decide) (by decide)
theorem sn_30 {Z : State} {a0 : Array Value} (hw : Hw Z a0) : Jvm.RoadKit.slotOf Z Kn0 "keyMask" "[J" ≠ Jvm.RoadKit.slotOf Z Kn0 "low" "[I" := slot_ne (a0 := a0) (C := Kn0) (Or.inr (wd_67 hw)) (Or.inr (wd_37 hw)) (by decide) (t := (.array .long)) (t' := (.array .int)) (by decide) (by decide)
theorem sn_31 {Z : State} {a0 : Array Value} (hw : Hw Z a0) : Jvm.RoadKit.slotOf Z Kn0 "keyMask" "[J" ≠ Jvm.RoadKit.slotOf Z Kn0 "high" "[I" := slot_ne (a0 := a0) (C := Kn0) (Or.inr (wd_67 hw)) (Or.inr (wd_39 hw)) (by decide) (t := (.array .long)) (t' := (.array .int)) (by decide) (by decide)
theorem sn_32 {Z : State} {a0 : Array Value} (hw : Hw Z a0) : Jvm.RoadKit.slotOf Z Kn0 "keyMask" "[J" ≠ Jvm.RoadKit.slotOf Z Kn0 "shift" "[I" := slot_ne (a0 := a0) (C := Kn0) (Or.inr (wd_67 hw)) (Or.inr (wd_41 hw)) (by decide) (t := (.array .long)) (t' := (.array .int)) (by decide) (by decide)
theorem sn_33 {Z : State} {a0 : Array Value} (hw : Hw Z a0) : Jvm.RoadKit.slotOf Z Kn0 "keyMask" "[J" ≠ Jvm.RoadKit.slotOf Z Kn0 "mask" "[J" := slot_ne (a0 := a0) (C := Kn0) (Or.inr (wd_67 hw)) (Or.inr (wd_43 hw)) (by decide) (t := (.array .long)) (t' := (.array .long)) (by decide) (by decide)
theorem sn_34 {Z : State} {a0 : Array Value} (hw : Hw Z a0) : Jvm.RoadKit.slotOf Z Kn0 "keyMask" "[J" ≠ Jvm.RoadKit.slotOf Z Kn0 "firstInt" "[I" := slot_ne (a0 := a0) (C := Kn0) (Or.inr (wd_67 hw)) (Or.inr (wd_63 hw)) (by decide) (t := (.array .long)) (t' := (.array .int)) (by decide) (by decide)
theorem sn_35 {Z : State} {a0 : Array Value} (hw : Hw Z a0) : Jvm.RoadKit.slotOf Z Kn0 "keyMask" "[J" ≠ Jvm.RoadKit.slotOf Z Kn0 "words" "I" := slot_ne (a0 := a0) (C := Kn0) (Or.inr (wd_67 hw)) (Or.inr (wd_65 hw)) (by decide) (t := (.array .long)) (t' := .int) (by decide) (by decide)
theorem sn_36 {Z : State} {a0 : Array Value} (hw : Hw Z a0) : Jvm.RoadKit.slotOf Z Kn0 "pageShift" "I" ≠ Jvm.RoadKit.slotOf Z Kn0 "pages" "[[J" := slot_ne (a0 := a0) (C := Kn0) (Or.inr (wd_72 hw)) (Or.inl (wd_23 hw)) (by decide) (t := .int) (t' := (.array (.array .long))) (by decide) (by decide)
theorem sn_37 {Z : State} {a0 : Array Value} (hw : Hw Z a0) : Jvm.RoadKit.slotOf Z Kn0 "pageShift" "I" ≠ Jvm.RoadKit.slotOf Z Kn0 "table" "[J" := slot_ne (a0 := a0) (C := Kn0) (Or.inr (wd_72 hw)) (Or.inl (wd_26 hw)) (by decide) (t := .int) (t' := (.array .long)) (by decide) (by decide)
theorem sn_38 {Z : State} {a0 : Array Value} (hw : Hw Z a0) : Jvm.RoadKit.slotOf Z Kn0 "pageShift" "I" ≠ Jvm.RoadKit.slotOf Z Kn0 "low" "[I" := slot_ne (a0 := a0) (C := Kn0) (Or.inr (wd_72 hw)) (Or.inr (wd_37 hw)) (by decide) (t := .int) (t' := (.array .int)) (by decide) (by decide)
theorem sn_39 {Z : State} {a0 : Array Value} (hw : Hw Z a0) : Jvm.RoadKit.slotOf Z Kn0 "pageShift" "I" ≠ Jvm.RoadKit.slotOf Z Kn0 "high" "[I" := slot_ne (a0 := a0) (C := Kn0) (Or.inr (wd_72 hw)) (Or.inr (wd_39 hw)) (by decide) (t := .int) (t' := (.array .int)) (by decide) (by decide)
theorem sn_40 {Z : State} {a0 : Array Value} (hw : Hw Z a0) : Jvm.RoadKit.slotOf Z Kn0 "pageShift" "I" ≠ Jvm.RoadKit.slotOf Z Kn0 "shift" "[I" := slot_ne (a0 := a0) (C := Kn0) (Or.inr (wd_72 hw)) (Or.inr (wd_41 hw)) (by decide) (t := .int) (t' := (.array .int)) (by decide) (by decide)
theorem sn_41 {Z : State} {a0 : Array Value} (hw : Hw Z a0) : Jvm.RoadKit.slotOf Z Kn0 "pageShift" "I" ≠ Jvm.RoadKit.slotOf Z Kn0 "mask" "[J" := slot_ne (a0 := a0) (C := Kn0) (Or.inr (wd_72 hw)) (Or.inr (wd_43 hw)) (by decide) (t := .int) (t' := (.array .long)) (by decide) (by decide)
theorem sn_42 {Z : State} {a0 : Array Value} (hw : Hw Z a0) : Jvm.RoadKit.slotOf Z Kn0 "pageShift" "I" ≠ Jvm.RoadKit.slotOf Z Kn0 "firstInt" "[I" := slot_ne (a0 := a0) (C := Kn0) (Or.inr (wd_72 hw)) (Or.inr (wd_63 hw)) (by decide) (t := .int) (t' := (.array .int)) (by decide) (by decide)
theorem sn_43 {Z : State} {a0 : Array Value} (hw : Hw Z a0) : Jvm.RoadKit.slotOf Z Kn0 "pageShift" "I" ≠ Jvm.RoadKit.slotOf Z Kn0 "words" "I" := slot_ne (a0 := a0) (C := Kn0) (Or.inr (wd_72 hw)) (Or.inr (wd_65 hw)) (by decide) (t := .int) (t' := .int) (by decide) (by decide)
theorem sn_44 {Z : State} {a0 : Array Value} (hw : Hw Z a0) : Jvm.RoadKit.slotOf Z Kn0 "pageShift" "I" ≠ Jvm.RoadKit.slotOf Z Kn0 "keyMask" "[J" := slot_ne (a0 := a0) (C := Kn0) (Or.inr (wd_72 hw)) (Or.inr (wd_67 hw)) (by decide) (t := .int) (t' := (.array .long)) (by decide) (by decide)
theorem sn_45 {Z : State} {a0 : Array Value} (hw : Hw Z a0) : Jvm.RoadKit.slotOf Z Kn0 "size" "I" ≠ Jvm.RoadKit.slotOf Z Kn0 "pages" "[[J" := slot_ne (a0 := a0) (C := Kn0) (Or.inl (wd_100 hw)) (Or.inl (wd_23 hw)) (by decide) (t := .int) (t' := (.array (.array .long))) (by decide) (by decide)
theorem sn_46 {Z : State} {a0 : Array Value} (hw : Hw Z a0) : Jvm.RoadKit.slotOf Z Kn0 "size" "I" ≠ Jvm.RoadKit.slotOf Z Kn0 "table" "[J" := slot_ne (a0 := a0) (C := Kn0) (Or.inl (wd_100 hw)) (Or.inl (wd_26 hw)) (by decide) (t := .int) (t' := (.array .long)) (by decide) (by decide)
theorem sn_47 {Z : State} {a0 : Array Value} (hw : Hw Z a0) : Jvm.RoadKit.slotOf Z Kn0 "size" "I" ≠ Jvm.RoadKit.slotOf Z Kn0 "low" "[I" := slot_ne (a0 := a0) (C := Kn0) (Or.inl (wd_100 hw)) (Or.inr (wd_37 hw)) (by decide) (t := .int) (t' := (.array .int)) (by decide) (by decide)
theorem sn_48 {Z : State} {a0 : Array Value} (hw : Hw Z a0) : Jvm.RoadKit.slotOf Z Kn0 "size" "I" ≠ Jvm.RoadKit.slotOf Z Kn0 "high" "[I" := slot_ne (a0 := a0) (C := Kn0) (Or.inl (wd_100 hw)) (Or.inr (wd_39 hw)) (by decide) (t := .int) (t' := (.array .int)) (by decide) (by decide)
theorem sn_49 {Z : State} {a0 : Array Value} (hw : Hw Z a0) : Jvm.RoadKit.slotOf Z Kn0 "size" "I" ≠ Jvm.RoadKit.slotOf Z Kn0 "shift" "[I" := slot_ne (a0 := a0) (C := Kn0) (Or.inl (wd_100 hw)) (Or.inr (wd_41 hw)) (by decide) (t := .int) (t' := (.array .int)) (by decide) (by decide)
theorem sn_50 {Z : State} {a0 : Array Value} (hw : Hw Z a0) : Jvm.RoadKit.slotOf Z Kn0 "size" "I" ≠ Jvm.RoadKit.slotOf Z Kn0 "mask" "[J" := slot_ne (a0 := a0) (C := Kn0) (Or.inl (wd_100 hw)) (Or.inr (wd_43 hw)) (by decide) (t := .int) (t' := (.array .long)) (by decide) (by decide)
theorem sn_51 {Z : State} {a0 : Array Value} (hw : Hw Z a0) : Jvm.RoadKit.slotOf Z Kn0 "size" "I" ≠ Jvm.RoadKit.slotOf Z Kn0 "firstInt" "[I" := slot_ne (a0 := a0) (C := Kn0) (Or.inl (wd_100 hw)) (Or.inr (wd_63 hw)) (by decide) (t := .int) (t' := (.array .int)) (by decide) (by decide)
theorem sn_52 {Z : State} {a0 : Array Value} (hw : Hw Z a0) : Jvm.RoadKit.slotOf Z Kn0 "size" "I" ≠ Jvm.RoadKit.slotOf Z Kn0 "words" "I" := slot_ne (a0 := a0) (C := Kn0) (Or.inl (wd_100 hw)) (Or.inr (wd_65 hw)) (by decide) (t := .int) (t' := .int) (by decide) (by decide)
theorem sn_53 {Z : State} {a0 : Array Value} (hw : Hw Z a0) : Jvm.RoadKit.slotOf Z Kn0 "size" "I" ≠ Jvm.RoadKit.slotOf Z Kn0 "keyMask" "[J" := slot_ne (a0 := a0) (C := Kn0) (Or.inl (wd_100 hw)) (Or.inr (wd_67 hw)) (by decide) (t := .int) (t' := (.array .long)) (by decide) (by decide)
theorem sn_54 {Z : State} {a0 : Array Value} (hw : Hw Z a0) : Jvm.RoadKit.slotOf Z Kn0 "packed" "[J" ≠ Jvm.RoadKit.slotOf Z Kn0 "pages" "[[J" := slot_ne (a0 := a0) (C := Kn0) (Or.inr (wd_74 hw)) (Or.inl (wd_23 hw)) (by decide) (t := (.array .long)) (t' := (.array (.array .long))) (by decide) (by decide)
theorem sn_55 {Z : State} {a0 : Array Value} (hw : Hw Z a0) : Jvm.RoadKit.slotOf Z Kn0 "packed" "[J" ≠ Jvm.RoadKit.slotOf Z Kn0 "table" "[J" := slot_ne (a0 := a0) (C := Kn0) (Or.inr (wd_74 hw)) (Or.inl (wd_26 hw)) (by decide) (t := (.array .long)) (t' := (.array .long)) (by decide) (by decide)
theorem sn_56 {Z : State} {a0 : Array Value} (hw : Hw Z a0) : Jvm.RoadKit.slotOf Z Kn0 "packed" "[J" ≠ Jvm.RoadKit.slotOf Z Kn0 "low" "[I" := slot_ne (a0 := a0) (C := Kn0) (Or.inr (wd_74 hw)) (Or.inr (wd_37 hw)) (by decide) (t := (.array .long)) (t' := (.array .int)) (by decide) (by decide)
theorem sn_57 {Z : State} {a0 : Array Value} (hw : Hw Z a0) : Jvm.RoadKit.slotOf Z Kn0 "packed" "[J" ≠ Jvm.RoadKit.slotOf Z Kn0 "high" "[I" := slot_ne (a0 := a0) (C := Kn0) (Or.inr (wd_74 hw)) (Or.inr (wd_39 hw)) (by decide) (t := (.array .long)) (t' := (.array .int)) (by decide) (by decide)
theorem sn_58 {Z : State} {a0 : Array Value} (hw : Hw Z a0) : Jvm.RoadKit.slotOf Z Kn0 "packed" "[J" ≠ Jvm.RoadKit.slotOf Z Kn0 "shift" "[I" := slot_ne (a0 := a0) (C := Kn0) (Or.inr (wd_74 hw)) (Or.inr (wd_41 hw)) (by decide) (t := (.array .long)) (t' := (.array .int)) (by decide) (by decide)
theorem sn_59 {Z : State} {a0 : Array Value} (hw : Hw Z a0) : Jvm.RoadKit.slotOf Z Kn0 "packed" "[J" ≠ Jvm.RoadKit.slotOf Z Kn0 "mask" "[J" := slot_ne (a0 := a0) (C := Kn0) (Or.inr (wd_74 hw)) (Or.inr (wd_43 hw)) (by decide) (t := (.array .long)) (t' := (.array .long)) (by decide) (by decide)
theorem sn_60 {Z : State} {a0 : Array Value} (hw : Hw Z a0) : Jvm.RoadKit.slotOf Z Kn0 "packed" "[J" ≠ Jvm.RoadKit.slotOf Z Kn0 "firstInt" "[I" := slot_ne (a0 := a0) (C := Kn0) (Or.inr (wd_74 hw)) (Or.inr (wd_63 hw)) (by decide) (t := (.array .long)) (t' := (.array .int)) (by decide) (by decide)
theorem sn_61 {Z : State} {a0 : Array Value} (hw : Hw Z a0) : Jvm.RoadKit.slotOf Z Kn0 "packed" "[J" ≠ Jvm.RoadKit.slotOf Z Kn0 "words" "I" := slot_ne (a0 := a0) (C := Kn0) (Or.inr (wd_74 hw)) (Or.inr (wd_65 hw)) (by decide) (t := (.array .long)) (t' := .int) (by decide) (by decide)
theorem sn_62 {Z : State} {a0 : Array Value} (hw : Hw Z a0) : Jvm.RoadKit.slotOf Z Kn0 "packed" "[J" ≠ Jvm.RoadKit.slotOf Z Kn0 "keyMask" "[J" := slot_ne (a0 := a0) (C := Kn0) (Or.inr (wd_74 hw)) (Or.inr (wd_67 hw)) (by decide) (t := (.array .long)) (t' := (.array .long)) (by decide) (by decide)
theorem sn_63 {Z : State} {a0 : Array Value} (hw : Hw Z a0) : Jvm.RoadKit.slotOf Z Kn0 "packed" "[J" ≠ Jvm.RoadKit.slotOf Z Kn0 "pageShift" "I" := slot_ne (a0 := a0) (C := Kn0) (Or.inr (wd_74 hw)) (Or.inr (wd_72 hw)) (by decide) (t := (.array .long)) (t' := .int) (by decide) (by decide)
theorem sn_64 {Z : State} {a0 : Array Value} (hw : Hw Z a0) : Jvm.RoadKit.slotOf Z Kn0 "size" "I" ≠ Jvm.RoadKit.slotOf Z Kn0 "pageShift" "I" := slot_ne (a0 := a0) (C := Kn0) (Or.inl (wd_100 hw)) (Or.inr (wd_72 hw)) (by decide) (t := .int) (t' := .int) (by decide) (by decide)
theorem sn_65 {Z : State} {a0 : Array Value} (hw : Hw Z a0) : Jvm.RoadKit.slotOf Z Kn0 "size" "I" ≠ Jvm.RoadKit.slotOf Z Kn0 "packed" "[J" := slot_ne (a0 := a0) (C := Kn0) (Or.inl (wd_100 hw)) (Or.inr (wd_74 hw)) (by decide) (t := .int) (t' := (.array .long)) (by decide) (by decide)
theorem pd_0 : parseMethodDescriptor "(I)I" = some ⟨[.int], some .int⟩ := by decide +kernel
theorem pd_1 : parseMethodDescriptor "(II)I" = some ⟨[.int, .int], some .int⟩ := by decide +kernel
theorem pd_2 : parseMethodDescriptor "(J)I" = some ⟨[.long], some .int⟩ := by decide +kernel
theorem pd_3 : parseMethodDescriptor "([II)[I" = some ⟨[(.array .int), .int], some (.array .int)⟩ := by decide +kernel
theorem pd_4 : parseMethodDescriptor "(JI)Z" = some ⟨[.long, .int], some .boolean⟩ := by decide +kernel
theorem pd_5 : parseMethodDescriptor "([I)I" = some ⟨[(.array .int)], some .int⟩ := by decide +kernel
theorem pd_6 : parseMethodDescriptor "(ILjava/util/function/IntPredicate;)I" = some ⟨[.int, (.object "java/util/function/IntPredicate")], some .int⟩ := by decide +kernel
theorem pd_7 : parseMethodDescriptor "()I" = some ⟨[], some .int⟩ := by decide +kernel
theorem pd_8 : parseMethodDescriptor "(II)V" = some ⟨[.int, .int], none⟩ := by decide +kernel
theorem pd_9 : parseMethodDescriptor "([ILjava/util/function/IntPredicate;)I" = some ⟨[(.array .int), (.object "java/util/function/IntPredicate")], some .int⟩ := by decide +kernel
theorem pd_10 : parseMethodDescriptor "()V" = some ⟨[], none⟩ := by decide +kernel
theorem pd_11 : parseMethodDescriptor "(I[I)V" = some ⟨[.int, (.array .int)], none⟩ := by decide +kernel
theorem pd_12 : parseMethodDescriptor "([I[II)V" = some ⟨[(.array .int), (.array .int), .int], none⟩ := by decide +kernel
theorem d0_0 : decode jdk_29_method_65_code 0 = .ok (.iload_n 0, 1) := by decide +kernel
theorem d0_1 : decode jdk_29_method_65_code 1 = .ok (.iload_n 1, 1) := by decide +kernel
theorem d0_2 : decode jdk_29_method_65_code 2 = .ok (.if_icmp .lt 7, 3) := by decide +kernel
theorem d0_5 : decode jdk_29_method_65_code 5 = .ok (.iload_n 0, 1) := by decide +kernel
theorem d0_6 : decode jdk_29_method_65_code 6 = .ok (.goto 4, 3) := by decide +kernel
theorem d0_9 : decode jdk_29_method_65_code 9 = .ok (.iload_n 1, 1) := by decide +kernel
theorem d0_10 : decode jdk_29_method_65_code 10 = .ok (.ireturn, 1) := by decide +kernel
theorem d1_0 : decode jdk_29_method_69_code 0 = .ok (.iload_n 0, 1) := by decide +kernel
theorem d1_1 : decode jdk_29_method_69_code 1 = .ok (.iload_n 1, 1) := by decide +kernel
theorem d1_2 : decode jdk_29_method_69_code 2 = .ok (.if_icmp .gt 7, 3) := by decide +kernel
theorem d1_5 : decode jdk_29_method_69_code 5 = .ok (.iload_n 0, 1) := by decide +kernel
theorem d1_6 : decode jdk_29_method_69_code 6 = .ok (.goto 4, 3) := by decide +kernel
theorem d1_9 : decode jdk_29_method_69_code 9 = .ok (.iload_n 1, 1) := by decide +kernel
theorem d1_10 : decode jdk_29_method_69_code 10 = .ok (.ireturn, 1) := by decide +kernel
theorem d2_0 : decode jdk_33_method_47_code 0 = .ok (.iload_n 0, 1) := by decide +kernel
theorem d2_1 : decode jdk_33_method_47_code 1 = .ok (.ifCond .gt 14, 3) := by decide +kernel
theorem d2_4 : decode jdk_33_method_47_code 4 = .ok (.iload_n 0, 1) := by decide +kernel
theorem d2_5 : decode jdk_33_method_47_code 5 = .ok (.ifCond .ne 8, 3) := by decide +kernel
theorem d2_8 : decode jdk_33_method_47_code 8 = .ok (.bipush 32, 2) := by decide +kernel
theorem d2_10 : decode jdk_33_method_47_code 10 = .ok (.goto 4, 3) := by decide +kernel
theorem d2_13 : decode jdk_33_method_47_code 13 = .ok (.iconst 0, 1) := by decide +kernel
theorem d2_14 : decode jdk_33_method_47_code 14 = .ok (.ireturn, 1) := by decide +kernel
theorem d2_15 : decode jdk_33_method_47_code 15 = .ok (.bipush 31, 2) := by decide +kernel
theorem d2_17 : decode jdk_33_method_47_code 17 = .ok (.istore_n 1, 1) := by decide +kernel
theorem d2_18 : decode jdk_33_method_47_code 18 = .ok (.iload_n 0, 1) := by decide +kernel
theorem d2_19 : decode jdk_33_method_47_code 19 = .ok (.ldc_w 264, 3) := by decide +kernel
theorem d2_22 : decode jdk_33_method_47_code 22 = .ok (.if_icmp .lt 11, 3) := by decide +kernel
theorem d2_25 : decode jdk_33_method_47_code 25 = .ok (.iinc 1 (-16), 3) := by decide +kernel
theorem d2_28 : decode jdk_33_method_47_code 28 = .ok (.iload_n 0, 1) := by decide +kernel
theorem d2_29 : decode jdk_33_method_47_code 29 = .ok (.bipush 16, 2) := by decide +kernel
theorem d2_31 : decode jdk_33_method_47_code 31 = .ok (.iushr, 1) := by decide +kernel
theorem d2_32 : decode jdk_33_method_47_code 32 = .ok (.istore_n 0, 1) := by decide +kernel
theorem d2_33 : decode jdk_33_method_47_code 33 = .ok (.iload_n 0, 1) := by decide +kernel
theorem d2_34 : decode jdk_33_method_47_code 34 = .ok (.sipush 256, 3) := by decide +kernel
theorem d2_37 : decode jdk_33_method_47_code 37 = .ok (.if_icmp .lt 11, 3) := by decide +kernel
theorem d2_40 : decode jdk_33_method_47_code 40 = .ok (.iinc 1 (-8), 3) := by decide +kernel
theorem d2_43 : decode jdk_33_method_47_code 43 = .ok (.iload_n 0, 1) := by decide +kernel
theorem d2_44 : decode jdk_33_method_47_code 44 = .ok (.bipush 8, 2) := by decide +kernel
theorem d2_46 : decode jdk_33_method_47_code 46 = .ok (.iushr, 1) := by decide +kernel
theorem d2_47 : decode jdk_33_method_47_code 47 = .ok (.istore_n 0, 1) := by decide +kernel
theorem d2_48 : decode jdk_33_method_47_code 48 = .ok (.iload_n 0, 1) := by decide +kernel
theorem d2_49 : decode jdk_33_method_47_code 49 = .ok (.bipush 16, 2) := by decide +kernel
theorem d2_51 : decode jdk_33_method_47_code 51 = .ok (.if_icmp .lt 10, 3) := by decide +kernel
theorem d2_54 : decode jdk_33_method_47_code 54 = .ok (.iinc 1 (-4), 3) := by decide +kernel
theorem d2_57 : decode jdk_33_method_47_code 57 = .ok (.iload_n 0, 1) := by decide +kernel
theorem d2_58 : decode jdk_33_method_47_code 58 = .ok (.iconst 4, 1) := by decide +kernel
theorem d2_59 : decode jdk_33_method_47_code 59 = .ok (.iushr, 1) := by decide +kernel
theorem d2_60 : decode jdk_33_method_47_code 60 = .ok (.istore_n 0, 1) := by decide +kernel
theorem d2_61 : decode jdk_33_method_47_code 61 = .ok (.iload_n 0, 1) := by decide +kernel
theorem d2_62 : decode jdk_33_method_47_code 62 = .ok (.iconst 4, 1) := by decide +kernel
theorem d2_63 : decode jdk_33_method_47_code 63 = .ok (.if_icmp .lt 10, 3) := by decide +kernel
theorem d2_66 : decode jdk_33_method_47_code 66 = .ok (.iinc 1 (-2), 3) := by decide +kernel
theorem d2_69 : decode jdk_33_method_47_code 69 = .ok (.iload_n 0, 1) := by decide +kernel
theorem d2_70 : decode jdk_33_method_47_code 70 = .ok (.iconst 2, 1) := by decide +kernel
theorem d2_71 : decode jdk_33_method_47_code 71 = .ok (.iushr, 1) := by decide +kernel
theorem d2_72 : decode jdk_33_method_47_code 72 = .ok (.istore_n 0, 1) := by decide +kernel
theorem d2_73 : decode jdk_33_method_47_code 73 = .ok (.iload_n 1, 1) := by decide +kernel
theorem d2_74 : decode jdk_33_method_47_code 74 = .ok (.iload_n 0, 1) := by decide +kernel
theorem d2_75 : decode jdk_33_method_47_code 75 = .ok (.iconst 1, 1) := by decide +kernel
theorem d2_76 : decode jdk_33_method_47_code 76 = .ok (.iushr, 1) := by decide +kernel
theorem d2_77 : decode jdk_33_method_47_code 77 = .ok (.isub, 1) := by decide +kernel
theorem d2_78 : decode jdk_33_method_47_code 78 = .ok (.ireturn, 1) := by decide +kernel
theorem d3_0 : decode jdk_35_method_48_code 0 = .ok (.lload_n 0, 1) := by decide +kernel
theorem d3_1 : decode jdk_35_method_48_code 1 = .ok (.bipush 32, 2) := by decide +kernel
theorem d3_3 : decode jdk_35_method_48_code 3 = .ok (.lushr, 1) := by decide +kernel
theorem d3_4 : decode jdk_35_method_48_code 4 = .ok (.l2i, 1) := by decide +kernel
theorem d3_5 : decode jdk_35_method_48_code 5 = .ok (.istore_n 2, 1) := by decide +kernel
theorem d3_6 : decode jdk_35_method_48_code 6 = .ok (.iload_n 2, 1) := by decide +kernel
theorem d3_7 : decode jdk_35_method_48_code 7 = .ok (.ifCond .ne 14, 3) := by decide +kernel
theorem d3_10 : decode jdk_35_method_48_code 10 = .ok (.bipush 32, 2) := by decide +kernel
theorem d3_12 : decode jdk_35_method_48_code 12 = .ok (.lload_n 0, 1) := by decide +kernel
theorem d3_13 : decode jdk_35_method_48_code 13 = .ok (.l2i, 1) := by decide +kernel
theorem d3_14 : decode jdk_35_method_48_code 14 = .ok (.invokestatic 308, 3) := by decide +kernel
theorem d3_17 : decode jdk_35_method_48_code 17 = .ok (.iadd, 1) := by decide +kernel
theorem d3_18 : decode jdk_35_method_48_code 18 = .ok (.goto 7, 3) := by decide +kernel
theorem d3_25 : decode jdk_35_method_48_code 25 = .ok (.ireturn, 1) := by decide +kernel
theorem d4_0 : decode jdk_65_method_123_code 0 = .ok (.iload_n 1, 1) := by decide +kernel
theorem d4_1 : decode jdk_65_method_123_code 1 = .ok (.aload_n 0, 1) := by decide +kernel
theorem d4_2 : decode jdk_65_method_123_code 2 = .ok (.arraylength, 1) := by decide +kernel
theorem d4_3 : decode jdk_65_method_123_code 3 = .ok (.if_icmp .ne 11, 3) := by decide +kernel
theorem d4_14 : decode jdk_65_method_123_code 14 = .ok (.iload_n 1, 1) := by decide +kernel
theorem d4_15 : decode jdk_65_method_123_code 15 = .ok (.newarray .int, 2) := by decide +kernel
theorem d4_17 : decode jdk_65_method_123_code 17 = .ok (.astore_n 2, 1) := by decide +kernel
theorem d4_18 : decode jdk_65_method_123_code 18 = .ok (.aload_n 0, 1) := by decide +kernel
theorem d4_19 : decode jdk_65_method_123_code 19 = .ok (.iconst 0, 1) := by decide +kernel
theorem d4_20 : decode jdk_65_method_123_code 20 = .ok (.aload_n 2, 1) := by decide +kernel
theorem d4_21 : decode jdk_65_method_123_code 21 = .ok (.iconst 0, 1) := by decide +kernel
theorem d4_22 : decode jdk_65_method_123_code 22 = .ok (.aload_n 0, 1) := by decide +kernel
theorem d4_23 : decode jdk_65_method_123_code 23 = .ok (.arraylength, 1) := by decide +kernel
theorem d4_24 : decode jdk_65_method_123_code 24 = .ok (.iload_n 1, 1) := by decide +kernel
theorem d4_25 : decode jdk_65_method_123_code 25 = .ok (.invokestatic 304, 3) := by decide +kernel
theorem d4_28 : decode jdk_65_method_123_code 28 = .ok (.invokestatic 150, 3) := by decide +kernel
theorem d4_31 : decode jdk_65_method_123_code 31 = .ok (.aload_n 2, 1) := by decide +kernel
theorem d4_32 : decode jdk_65_method_123_code 32 = .ok (.areturn, 1) := by decide +kernel
theorem d9_0 : decode prog_52_method_10_code 0 = .ok (.aload_n 0, 1) := by decide +kernel
theorem d9_1 : decode prog_52_method_10_code 1 = .ok (.getfield 18, 3) := by decide +kernel
theorem d9_4 : decode prog_52_method_10_code 4 = .ok (.arraylength, 1) := by decide +kernel
theorem d9_5 : decode prog_52_method_10_code 5 = .ok (.iconst 1, 1) := by decide +kernel
theorem d9_6 : decode prog_52_method_10_code 6 = .ok (.isub, 1) := by decide +kernel
theorem d9_7 : decode prog_52_method_10_code 7 = .ok (.istore_n 3, 1) := by decide +kernel
theorem d9_8 : decode prog_52_method_10_code 8 = .ok (.iload_n 1, 1) := by decide +kernel
theorem d9_9 : decode prog_52_method_10_code 9 = .ok (.iload_n 3, 1) := by decide +kernel
theorem d9_10 : decode prog_52_method_10_code 10 = .ok (.iand, 1) := by decide +kernel
theorem d9_11 : decode prog_52_method_10_code 11 = .ok (.istore 4, 2) := by decide +kernel
theorem d9_13 : decode prog_52_method_10_code 13 = .ok (.aload_n 2, 1) := by decide +kernel
theorem d9_14 : decode prog_52_method_10_code 14 = .ok (.ifnull 75, 3) := by decide +kernel
theorem d9_89 : decode prog_52_method_10_code 89 = .ok (.iconst (-1), 1) := by decide +kernel
theorem d9_90 : decode prog_52_method_10_code 90 = .ok (.ireturn, 1) := by decide +kernel
theorem d12_0 : decode prog_52_method_11_code 0 = .ok (.aload_n 0, 1) := by decide +kernel
theorem d12_1 : decode prog_52_method_11_code 1 = .ok (.aconst_null, 1) := by decide +kernel
theorem d12_2 : decode prog_52_method_11_code 2 = .ok (.putfield 18, 3) := by decide +kernel
theorem d12_5 : decode prog_52_method_11_code 5 = .ok (.return_, 1) := by decide +kernel
theorem d13_0 : decode prog_52_method_12_code 0 = .ok (.aload_n 0, 1) := by decide +kernel
theorem d13_1 : decode prog_52_method_12_code 1 = .ok (.getfield 14, 3) := by decide +kernel
theorem d13_4 : decode prog_52_method_12_code 4 = .ok (.iload_n 1, 1) := by decide +kernel
theorem d13_5 : decode prog_52_method_12_code 5 = .ok (.aload_n 0, 1) := by decide +kernel
theorem d13_6 : decode prog_52_method_12_code 6 = .ok (.getfield 73, 3) := by decide +kernel
theorem d13_9 : decode prog_52_method_12_code 9 = .ok (.iushr, 1) := by decide +kernel
theorem d13_10 : decode prog_52_method_12_code 10 = .ok (.aaload, 1) := by decide +kernel
theorem d13_11 : decode prog_52_method_12_code 11 = .ok (.astore_n 3, 1) := by decide +kernel
theorem d13_12 : decode prog_52_method_12_code 12 = .ok (.iload_n 1, 1) := by decide +kernel
theorem d13_13 : decode prog_52_method_12_code 13 = .ok (.iconst 1, 1) := by decide +kernel
theorem d13_14 : decode prog_52_method_12_code 14 = .ok (.aload_n 0, 1) := by decide +kernel
theorem d13_15 : decode prog_52_method_12_code 15 = .ok (.getfield 73, 3) := by decide +kernel
theorem d13_18 : decode prog_52_method_12_code 18 = .ok (.ishl, 1) := by decide +kernel
theorem d13_19 : decode prog_52_method_12_code 19 = .ok (.iconst 1, 1) := by decide +kernel
theorem d13_20 : decode prog_52_method_12_code 20 = .ok (.isub, 1) := by decide +kernel
theorem d13_21 : decode prog_52_method_12_code 21 = .ok (.iand, 1) := by decide +kernel
theorem d13_22 : decode prog_52_method_12_code 22 = .ok (.aload_n 0, 1) := by decide +kernel
theorem d13_23 : decode prog_52_method_12_code 23 = .ok (.getfield 54, 3) := by decide +kernel
theorem d13_26 : decode prog_52_method_12_code 26 = .ok (.imul, 1) := by decide +kernel
theorem d13_27 : decode prog_52_method_12_code 27 = .ok (.istore 4, 2) := by decide +kernel
theorem d13_29 : decode prog_52_method_12_code 29 = .ok (.iconst 0, 1) := by decide +kernel
theorem d13_30 : decode prog_52_method_12_code 30 = .ok (.istore 5, 2) := by decide +kernel
theorem d13_32 : decode prog_52_method_12_code 32 = .ok (.iload 5, 2) := by decide +kernel
theorem d13_34 : decode prog_52_method_12_code 34 = .ok (.aload_n 0, 1) := by decide +kernel
theorem d13_35 : decode prog_52_method_12_code 35 = .ok (.getfield 54, 3) := by decide +kernel
theorem d13_38 : decode prog_52_method_12_code 38 = .ok (.if_icmp .ge 79, 3) := by decide +kernel
theorem d13_41 : decode prog_52_method_12_code 41 = .ok (.aload_n 3, 1) := by decide +kernel
theorem d13_42 : decode prog_52_method_12_code 42 = .ok (.iload 4, 2) := by decide +kernel
theorem d13_44 : decode prog_52_method_12_code 44 = .ok (.iload 5, 2) := by decide +kernel
theorem d13_46 : decode prog_52_method_12_code 46 = .ok (.iadd, 1) := by decide +kernel
theorem d13_47 : decode prog_52_method_12_code 47 = .ok (.laload, 1) := by decide +kernel
theorem d13_48 : decode prog_52_method_12_code 48 = .ok (.lstore 6, 2) := by decide +kernel
theorem d13_50 : decode prog_52_method_12_code 50 = .ok (.aload_n 0, 1) := by decide +kernel
theorem d13_51 : decode prog_52_method_12_code 51 = .ok (.getfield 51, 3) := by decide +kernel
theorem d13_54 : decode prog_52_method_12_code 54 = .ok (.iload 5, 2) := by decide +kernel
theorem d13_56 : decode prog_52_method_12_code 56 = .ok (.iaload, 1) := by decide +kernel
theorem d13_57 : decode prog_52_method_12_code 57 = .ok (.istore 8, 2) := by decide +kernel
theorem d13_59 : decode prog_52_method_12_code 59 = .ok (.iload 8, 2) := by decide +kernel
theorem d13_61 : decode prog_52_method_12_code 61 = .ok (.aload_n 0, 1) := by decide +kernel
theorem d13_62 : decode prog_52_method_12_code 62 = .ok (.getfield 51, 3) := by decide +kernel
theorem d13_65 : decode prog_52_method_12_code 65 = .ok (.iload 5, 2) := by decide +kernel
theorem d13_67 : decode prog_52_method_12_code 67 = .ok (.iconst 1, 1) := by decide +kernel
theorem d13_68 : decode prog_52_method_12_code 68 = .ok (.iadd, 1) := by decide +kernel
theorem d13_69 : decode prog_52_method_12_code 69 = .ok (.iaload, 1) := by decide +kernel
theorem d13_70 : decode prog_52_method_12_code 70 = .ok (.if_icmp .ge 41, 3) := by decide +kernel
theorem d13_73 : decode prog_52_method_12_code 73 = .ok (.aload_n 2, 1) := by decide +kernel
theorem d13_74 : decode prog_52_method_12_code 74 = .ok (.iload 8, 2) := by decide +kernel
theorem d13_76 : decode prog_52_method_12_code 76 = .ok (.lload 6, 2) := by decide +kernel
theorem d13_78 : decode prog_52_method_12_code 78 = .ok (.aload_n 0, 1) := by decide +kernel
theorem d13_79 : decode prog_52_method_12_code 79 = .ok (.getfield 33, 3) := by decide +kernel
theorem d13_82 : decode prog_52_method_12_code 82 = .ok (.iload 8, 2) := by decide +kernel
theorem d13_84 : decode prog_52_method_12_code 84 = .ok (.iaload, 1) := by decide +kernel
theorem d13_85 : decode prog_52_method_12_code 85 = .ok (.lushr, 1) := by decide +kernel
theorem d13_86 : decode prog_52_method_12_code 86 = .ok (.aload_n 0, 1) := by decide +kernel
theorem d13_87 : decode prog_52_method_12_code 87 = .ok (.getfield 36, 3) := by decide +kernel
theorem d13_90 : decode prog_52_method_12_code 90 = .ok (.iload 8, 2) := by decide +kernel
theorem d13_92 : decode prog_52_method_12_code 92 = .ok (.laload, 1) := by decide +kernel
theorem d13_93 : decode prog_52_method_12_code 93 = .ok (.land, 1) := by decide +kernel
theorem d13_94 : decode prog_52_method_12_code 94 = .ok (.aload_n 0, 1) := by decide +kernel
theorem d13_95 : decode prog_52_method_12_code 95 = .ok (.getfield 27, 3) := by decide +kernel
theorem d13_98 : decode prog_52_method_12_code 98 = .ok (.iload 8, 2) := by decide +kernel
theorem d13_100 : decode prog_52_method_12_code 100 = .ok (.iaload, 1) := by decide +kernel
theorem d13_101 : decode prog_52_method_12_code 101 = .ok (.i2l, 1) := by decide +kernel
theorem d13_102 : decode prog_52_method_12_code 102 = .ok (.ladd, 1) := by decide +kernel
theorem d13_103 : decode prog_52_method_12_code 103 = .ok (.l2i, 1) := by decide +kernel
theorem d13_104 : decode prog_52_method_12_code 104 = .ok (.iastore, 1) := by decide +kernel
theorem d13_105 : decode prog_52_method_12_code 105 = .ok (.iinc 8 1, 3) := by decide +kernel
theorem d13_108 : decode prog_52_method_12_code 108 = .ok (.goto (-49), 3) := by decide +kernel
theorem d13_111 : decode prog_52_method_12_code 111 = .ok (.iinc 5 1, 3) := by decide +kernel
theorem d13_114 : decode prog_52_method_12_code 114 = .ok (.goto (-82), 3) := by decide +kernel
theorem d13_117 : decode prog_52_method_12_code 117 = .ok (.return_, 1) := by decide +kernel
theorem d11_0 : decode prog_52_method_13_code 0 = .ok (.aload_n 0, 1) := by decide +kernel
theorem d11_1 : decode prog_52_method_13_code 1 = .ok (.getfield 54, 3) := by decide +kernel
theorem d11_4 : decode prog_52_method_13_code 4 = .ok (.aload_n 0, 1) := by decide +kernel
theorem d11_5 : decode prog_52_method_13_code 5 = .ok (.getfield 73, 3) := by decide +kernel
theorem d11_8 : decode prog_52_method_13_code 8 = .ok (.ishl, 1) := by decide +kernel
theorem d11_9 : decode prog_52_method_13_code 9 = .ok (.istore_n 3, 1) := by decide +kernel
theorem d11_10 : decode prog_52_method_13_code 10 = .ok (.iload_n 1, 1) := by decide +kernel
theorem d11_11 : decode prog_52_method_13_code 11 = .ok (.ifCond .ne 23, 3) := by decide +kernel
theorem d11_14 : decode prog_52_method_13_code 14 = .ok (.iload_n 3, 1) := by decide +kernel
theorem d11_15 : decode prog_52_method_13_code 15 = .ok (.bipush 64, 2) := by decide +kernel
theorem d11_17 : decode prog_52_method_13_code 17 = .ok (.aload_n 0, 1) := by decide +kernel
theorem d11_18 : decode prog_52_method_13_code 18 = .ok (.getfield 54, 3) := by decide +kernel
theorem d11_21 : decode prog_52_method_13_code 21 = .ok (.imul, 1) := by decide +kernel
theorem d11_22 : decode prog_52_method_13_code 22 = .ok (.iconst 2, 1) := by decide +kernel
theorem d11_23 : decode prog_52_method_13_code 23 = .ok (.iload_n 2, 1) := by decide +kernel
theorem d11_24 : decode prog_52_method_13_code 24 = .ok (.imul, 1) := by decide +kernel
theorem d11_25 : decode prog_52_method_13_code 25 = .ok (.invokestatic 62, 3) := by decide +kernel
theorem d11_28 : decode prog_52_method_13_code 28 = .ok (.invokestatic 138, 3) := by decide +kernel
theorem d11_31 : decode prog_52_method_13_code 31 = .ok (.goto 4, 3) := by decide +kernel
theorem d11_35 : decode prog_52_method_13_code 35 = .ok (.istore 4, 2) := by decide +kernel
theorem d11_37 : decode prog_52_method_13_code 37 = .ok (.iload_n 1, 1) := by decide +kernel
theorem d11_38 : decode prog_52_method_13_code 38 = .ok (.aload_n 0, 1) := by decide +kernel
theorem d11_39 : decode prog_52_method_13_code 39 = .ok (.getfield 14, 3) := by decide +kernel
theorem d11_42 : decode prog_52_method_13_code 42 = .ok (.arraylength, 1) := by decide +kernel
theorem d11_43 : decode prog_52_method_13_code 43 = .ok (.if_icmp .ge 16, 3) := by decide +kernel
theorem d11_46 : decode prog_52_method_13_code 46 = .ok (.aload_n 0, 1) := by decide +kernel
theorem d11_47 : decode prog_52_method_13_code 47 = .ok (.getfield 14, 3) := by decide +kernel
theorem d11_50 : decode prog_52_method_13_code 50 = .ok (.iload_n 1, 1) := by decide +kernel
theorem d11_51 : decode prog_52_method_13_code 51 = .ok (.aaload, 1) := by decide +kernel
theorem d11_52 : decode prog_52_method_13_code 52 = .ok (.ifnull 7, 3) := by decide +kernel
theorem d11_59 : decode prog_52_method_13_code 59 = .ok (.iconst 0, 1) := by decide +kernel
theorem d11_60 : decode prog_52_method_13_code 60 = .ok (.istore 5, 2) := by decide +kernel
theorem d11_62 : decode prog_52_method_13_code 62 = .ok (.iload 5, 2) := by decide +kernel
theorem d11_64 : decode prog_52_method_13_code 64 = .ok (.ifCond .eq 17, 3) := by decide +kernel
theorem d11_81 : decode prog_52_method_13_code 81 = .ok (.iload 4, 2) := by decide +kernel
theorem d11_83 : decode prog_52_method_13_code 83 = .ok (.newarray .long, 2) := by decide +kernel
theorem d11_85 : decode prog_52_method_13_code 85 = .ok (.astore 6, 2) := by decide +kernel
theorem d11_87 : decode prog_52_method_13_code 87 = .ok (.iload_n 1, 1) := by decide +kernel
theorem d11_88 : decode prog_52_method_13_code 88 = .ok (.aload_n 0, 1) := by decide +kernel
theorem d11_89 : decode prog_52_method_13_code 89 = .ok (.getfield 14, 3) := by decide +kernel
theorem d11_92 : decode prog_52_method_13_code 92 = .ok (.arraylength, 1) := by decide +kernel
theorem d11_93 : decode prog_52_method_13_code 93 = .ok (.if_icmp .ne 20, 3) := by decide +kernel
theorem d11_113 : decode prog_52_method_13_code 113 = .ok (.aload_n 0, 1) := by decide +kernel
theorem d11_114 : decode prog_52_method_13_code 114 = .ok (.getfield 14, 3) := by decide +kernel
theorem d11_117 : decode prog_52_method_13_code 117 = .ok (.iload_n 1, 1) := by decide +kernel
theorem d11_118 : decode prog_52_method_13_code 118 = .ok (.aload 6, 2) := by decide +kernel
theorem d11_120 : decode prog_52_method_13_code 120 = .ok (.aastore, 1) := by decide +kernel
theorem d11_121 : decode prog_52_method_13_code 121 = .ok (.return_, 1) := by decide +kernel
theorem d7_0 : decode prog_52_method_14_code 0 = .ok (.lconst 0, 1) := by decide +kernel
theorem d7_1 : decode prog_52_method_14_code 1 = .ok (.lstore_n 2, 1) := by decide +kernel
theorem d7_2 : decode prog_52_method_14_code 2 = .ok (.iconst 0, 1) := by decide +kernel
theorem d7_3 : decode prog_52_method_14_code 3 = .ok (.istore 4, 2) := by decide +kernel
theorem d7_5 : decode prog_52_method_14_code 5 = .ok (.iload 4, 2) := by decide +kernel
theorem d7_7 : decode prog_52_method_14_code 7 = .ok (.aload_n 0, 1) := by decide +kernel
theorem d7_8 : decode prog_52_method_14_code 8 = .ok (.getfield 54, 3) := by decide +kernel
theorem d7_11 : decode prog_52_method_14_code 11 = .ok (.if_icmp .ge 153, 3) := by decide +kernel
theorem d7_14 : decode prog_52_method_14_code 14 = .ok (.lconst 0, 1) := by decide +kernel
theorem d7_15 : decode prog_52_method_14_code 15 = .ok (.lstore 5, 2) := by decide +kernel
theorem d7_17 : decode prog_52_method_14_code 17 = .ok (.aload_n 0, 1) := by decide +kernel
theorem d7_18 : decode prog_52_method_14_code 18 = .ok (.getfield 51, 3) := by decide +kernel
theorem d7_21 : decode prog_52_method_14_code 21 = .ok (.iload 4, 2) := by decide +kernel
theorem d7_23 : decode prog_52_method_14_code 23 = .ok (.iaload, 1) := by decide +kernel
theorem d7_24 : decode prog_52_method_14_code 24 = .ok (.istore 7, 2) := by decide +kernel
theorem d7_26 : decode prog_52_method_14_code 26 = .ok (.iload 7, 2) := by decide +kernel
theorem d7_28 : decode prog_52_method_14_code 28 = .ok (.aload_n 0, 1) := by decide +kernel
theorem d7_29 : decode prog_52_method_14_code 29 = .ok (.getfield 51, 3) := by decide +kernel
theorem d7_32 : decode prog_52_method_14_code 32 = .ok (.iload 4, 2) := by decide +kernel
theorem d7_34 : decode prog_52_method_14_code 34 = .ok (.iconst 1, 1) := by decide +kernel
theorem d7_35 : decode prog_52_method_14_code 35 = .ok (.iadd, 1) := by decide +kernel
theorem d7_36 : decode prog_52_method_14_code 36 = .ok (.iaload, 1) := by decide +kernel
theorem d7_37 : decode prog_52_method_14_code 37 = .ok (.if_icmp .ge 95, 3) := by decide +kernel
theorem d7_40 : decode prog_52_method_14_code 40 = .ok (.aload_n 1, 1) := by decide +kernel
theorem d7_41 : decode prog_52_method_14_code 41 = .ok (.iload 7, 2) := by decide +kernel
theorem d7_43 : decode prog_52_method_14_code 43 = .ok (.iaload, 1) := by decide +kernel
theorem d7_44 : decode prog_52_method_14_code 44 = .ok (.istore 8, 2) := by decide +kernel
theorem d7_46 : decode prog_52_method_14_code 46 = .ok (.iload 8, 2) := by decide +kernel
theorem d7_48 : decode prog_52_method_14_code 48 = .ok (.aload_n 0, 1) := by decide +kernel
theorem d7_49 : decode prog_52_method_14_code 49 = .ok (.getfield 27, 3) := by decide +kernel
theorem d7_52 : decode prog_52_method_14_code 52 = .ok (.iload 7, 2) := by decide +kernel
theorem d7_54 : decode prog_52_method_14_code 54 = .ok (.iaload, 1) := by decide +kernel
theorem d7_55 : decode prog_52_method_14_code 55 = .ok (.if_icmp .lt 15, 3) := by decide +kernel
theorem d7_58 : decode prog_52_method_14_code 58 = .ok (.iload 8, 2) := by decide +kernel
theorem d7_60 : decode prog_52_method_14_code 60 = .ok (.aload_n 0, 1) := by decide +kernel
theorem d7_61 : decode prog_52_method_14_code 61 = .ok (.getfield 30, 3) := by decide +kernel
theorem d7_64 : decode prog_52_method_14_code 64 = .ok (.iload 7, 2) := by decide +kernel
theorem d7_66 : decode prog_52_method_14_code 66 = .ok (.iaload, 1) := by decide +kernel
theorem d7_67 : decode prog_52_method_14_code 67 = .ok (.if_icmp .le 34, 3) := by decide +kernel
theorem d7_101 : decode prog_52_method_14_code 101 = .ok (.lload 5, 2) := by decide +kernel
theorem d7_103 : decode prog_52_method_14_code 103 = .ok (.iload 8, 2) := by decide +kernel
theorem d7_105 : decode prog_52_method_14_code 105 = .ok (.i2l, 1) := by decide +kernel
theorem d7_106 : decode prog_52_method_14_code 106 = .ok (.aload_n 0, 1) := by decide +kernel
theorem d7_107 : decode prog_52_method_14_code 107 = .ok (.getfield 27, 3) := by decide +kernel
theorem d7_110 : decode prog_52_method_14_code 110 = .ok (.iload 7, 2) := by decide +kernel
theorem d7_112 : decode prog_52_method_14_code 112 = .ok (.iaload, 1) := by decide +kernel
theorem d7_113 : decode prog_52_method_14_code 113 = .ok (.i2l, 1) := by decide +kernel
theorem d7_114 : decode prog_52_method_14_code 114 = .ok (.lsub, 1) := by decide +kernel
theorem d7_115 : decode prog_52_method_14_code 115 = .ok (.aload_n 0, 1) := by decide +kernel
theorem d7_116 : decode prog_52_method_14_code 116 = .ok (.getfield 33, 3) := by decide +kernel
theorem d7_119 : decode prog_52_method_14_code 119 = .ok (.iload 7, 2) := by decide +kernel
theorem d7_121 : decode prog_52_method_14_code 121 = .ok (.iaload, 1) := by decide +kernel
theorem d7_122 : decode prog_52_method_14_code 122 = .ok (.lshl, 1) := by decide +kernel
theorem d7_123 : decode prog_52_method_14_code 123 = .ok (.lor, 1) := by decide +kernel
theorem d7_124 : decode prog_52_method_14_code 124 = .ok (.lstore 5, 2) := by decide +kernel
theorem d7_126 : decode prog_52_method_14_code 126 = .ok (.iinc 7 1, 3) := by decide +kernel
theorem d7_129 : decode prog_52_method_14_code 129 = .ok (.goto (-103), 3) := by decide +kernel
theorem d7_132 : decode prog_52_method_14_code 132 = .ok (.aload_n 0, 1) := by decide +kernel
theorem d7_133 : decode prog_52_method_14_code 133 = .ok (.getfield 76, 3) := by decide +kernel
theorem d7_136 : decode prog_52_method_14_code 136 = .ok (.iload 4, 2) := by decide +kernel
theorem d7_138 : decode prog_52_method_14_code 138 = .ok (.lload 5, 2) := by decide +kernel
theorem d7_140 : decode prog_52_method_14_code 140 = .ok (.lastore, 1) := by decide +kernel
theorem d7_141 : decode prog_52_method_14_code 141 = .ok (.lload_n 2, 1) := by decide +kernel
theorem d7_142 : decode prog_52_method_14_code 142 = .ok (.lload 5, 2) := by decide +kernel
theorem d7_144 : decode prog_52_method_14_code 144 = .ok (.aload_n 0, 1) := by decide +kernel
theorem d7_145 : decode prog_52_method_14_code 145 = .ok (.getfield 58, 3) := by decide +kernel
theorem d7_148 : decode prog_52_method_14_code 148 = .ok (.iload 4, 2) := by decide +kernel
theorem d7_150 : decode prog_52_method_14_code 150 = .ok (.laload, 1) := by decide +kernel
theorem d7_151 : decode prog_52_method_14_code 151 = .ok (.land, 1) := by decide +kernel
theorem d7_152 : decode prog_52_method_14_code 152 = .ok (.ladd, 1) := by decide +kernel
theorem d7_153 : decode prog_52_method_14_code 153 = .ok (.ldc2_w 154, 3) := by decide +kernel
theorem d7_156 : decode prog_52_method_14_code 156 = .ok (.lmul, 1) := by decide +kernel
theorem d7_157 : decode prog_52_method_14_code 157 = .ok (.lstore_n 2, 1) := by decide +kernel
theorem d7_158 : decode prog_52_method_14_code 158 = .ok (.iinc 4 1, 3) := by decide +kernel
theorem d7_161 : decode prog_52_method_14_code 161 = .ok (.goto (-156), 3) := by decide +kernel
theorem d7_164 : decode prog_52_method_14_code 164 = .ok (.lload_n 2, 1) := by decide +kernel
theorem d7_165 : decode prog_52_method_14_code 165 = .ok (.lload_n 2, 1) := by decide +kernel
theorem d7_166 : decode prog_52_method_14_code 166 = .ok (.bipush 33, 2) := by decide +kernel
theorem d7_168 : decode prog_52_method_14_code 168 = .ok (.lushr, 1) := by decide +kernel
theorem d7_169 : decode prog_52_method_14_code 169 = .ok (.lxor, 1) := by decide +kernel
theorem d7_170 : decode prog_52_method_14_code 170 = .ok (.lstore_n 2, 1) := by decide +kernel
theorem d7_171 : decode prog_52_method_14_code 171 = .ok (.lload_n 2, 1) := by decide +kernel
theorem d7_172 : decode prog_52_method_14_code 172 = .ok (.ldc2_w 156, 3) := by decide +kernel
theorem d7_175 : decode prog_52_method_14_code 175 = .ok (.lmul, 1) := by decide +kernel
theorem d7_176 : decode prog_52_method_14_code 176 = .ok (.lstore_n 2, 1) := by decide +kernel
theorem d7_177 : decode prog_52_method_14_code 177 = .ok (.lload_n 2, 1) := by decide +kernel
theorem d7_178 : decode prog_52_method_14_code 178 = .ok (.lload_n 2, 1) := by decide +kernel
theorem d7_179 : decode prog_52_method_14_code 179 = .ok (.bipush 33, 2) := by decide +kernel
theorem d7_181 : decode prog_52_method_14_code 181 = .ok (.lushr, 1) := by decide +kernel
theorem d7_182 : decode prog_52_method_14_code 182 = .ok (.lxor, 1) := by decide +kernel
theorem d7_183 : decode prog_52_method_14_code 183 = .ok (.lstore_n 2, 1) := by decide +kernel
theorem d7_184 : decode prog_52_method_14_code 184 = .ok (.lload_n 2, 1) := by decide +kernel
theorem d7_185 : decode prog_52_method_14_code 185 = .ok (.l2i, 1) := by decide +kernel
theorem d7_186 : decode prog_52_method_14_code 186 = .ok (.ireturn, 1) := by decide +kernel
theorem d10_0 : decode prog_52_method_15_code 0 = .ok (.aload_n 0, 1) := by decide +kernel
theorem d10_1 : decode prog_52_method_15_code 1 = .ok (.getfield 18, 3) := by decide +kernel
theorem d10_4 : decode prog_52_method_15_code 4 = .ok (.arraylength, 1) := by decide +kernel
theorem d10_5 : decode prog_52_method_15_code 5 = .ok (.iconst 1, 1) := by decide +kernel
theorem d10_6 : decode prog_52_method_15_code 6 = .ok (.isub, 1) := by decide +kernel
theorem d10_7 : decode prog_52_method_15_code 7 = .ok (.istore_n 2, 1) := by decide +kernel
theorem d10_8 : decode prog_52_method_15_code 8 = .ok (.iload_n 1, 1) := by decide +kernel
theorem d10_9 : decode prog_52_method_15_code 9 = .ok (.iload_n 2, 1) := by decide +kernel
theorem d10_10 : decode prog_52_method_15_code 10 = .ok (.iand, 1) := by decide +kernel
theorem d10_11 : decode prog_52_method_15_code 11 = .ok (.istore_n 3, 1) := by decide +kernel
theorem d10_12 : decode prog_52_method_15_code 12 = .ok (.aload_n 0, 1) := by decide +kernel
theorem d10_13 : decode prog_52_method_15_code 13 = .ok (.getfield 18, 3) := by decide +kernel
theorem d10_16 : decode prog_52_method_15_code 16 = .ok (.iload_n 3, 1) := by decide +kernel
theorem d10_17 : decode prog_52_method_15_code 17 = .ok (.laload, 1) := by decide +kernel
theorem d10_18 : decode prog_52_method_15_code 18 = .ok (.lconst 0, 1) := by decide +kernel
theorem d10_19 : decode prog_52_method_15_code 19 = .ok (.lcmp, 1) := by decide +kernel
theorem d10_20 : decode prog_52_method_15_code 20 = .ok (.ifCond .eq 26, 3) := by decide +kernel
theorem d10_23 : decode prog_52_method_15_code 23 = .ok (.aload_n 0, 1) := by decide +kernel
theorem d10_24 : decode prog_52_method_15_code 24 = .ok (.aload_n 0, 1) := by decide +kernel
theorem d10_25 : decode prog_52_method_15_code 25 = .ok (.getfield 18, 3) := by decide +kernel
theorem d10_28 : decode prog_52_method_15_code 28 = .ok (.iload_n 3, 1) := by decide +kernel
theorem d10_29 : decode prog_52_method_15_code 29 = .ok (.laload, 1) := by decide +kernel
theorem d10_30 : decode prog_52_method_15_code 30 = .ok (.iload_n 1, 1) := by decide +kernel
theorem d10_31 : decode prog_52_method_15_code 31 = .ok (.invokevirtual 158, 3) := by decide +kernel
theorem d10_34 : decode prog_52_method_15_code 34 = .ok (.ifCond .ne 12, 3) := by decide +kernel
theorem d10_37 : decode prog_52_method_15_code 37 = .ok (.iload_n 3, 1) := by decide +kernel
theorem d10_38 : decode prog_52_method_15_code 38 = .ok (.iconst 1, 1) := by decide +kernel
theorem d10_39 : decode prog_52_method_15_code 39 = .ok (.iadd, 1) := by decide +kernel
theorem d10_40 : decode prog_52_method_15_code 40 = .ok (.iload_n 2, 1) := by decide +kernel
theorem d10_41 : decode prog_52_method_15_code 41 = .ok (.iand, 1) := by decide +kernel
theorem d10_42 : decode prog_52_method_15_code 42 = .ok (.istore_n 3, 1) := by decide +kernel
theorem d10_43 : decode prog_52_method_15_code 43 = .ok (.goto (-31), 3) := by decide +kernel
theorem d10_46 : decode prog_52_method_15_code 46 = .ok (.iload_n 3, 1) := by decide +kernel
theorem d10_47 : decode prog_52_method_15_code 47 = .ok (.ireturn, 1) := by decide +kernel
theorem d8_0 : decode prog_52_method_16_code 0 = .ok (.lload_n 1, 1) := by decide +kernel
theorem d8_1 : decode prog_52_method_16_code 1 = .ok (.bipush 32, 2) := by decide +kernel
theorem d8_3 : decode prog_52_method_16_code 3 = .ok (.lushr, 1) := by decide +kernel
theorem d8_4 : decode prog_52_method_16_code 4 = .ok (.l2i, 1) := by decide +kernel
theorem d8_5 : decode prog_52_method_16_code 5 = .ok (.iload_n 3, 1) := by decide +kernel
theorem d8_6 : decode prog_52_method_16_code 6 = .ok (.if_icmp .eq 5, 3) := by decide +kernel
theorem d8_9 : decode prog_52_method_16_code 9 = .ok (.iconst 0, 1) := by decide +kernel
theorem d8_10 : decode prog_52_method_16_code 10 = .ok (.ireturn, 1) := by decide +kernel
theorem d8_11 : decode prog_52_method_16_code 11 = .ok (.lload_n 1, 1) := by decide +kernel
theorem d8_12 : decode prog_52_method_16_code 12 = .ok (.l2i, 1) := by decide +kernel
theorem d8_13 : decode prog_52_method_16_code 13 = .ok (.iconst 1, 1) := by decide +kernel
theorem d8_14 : decode prog_52_method_16_code 14 = .ok (.isub, 1) := by decide +kernel
theorem d8_15 : decode prog_52_method_16_code 15 = .ok (.istore 4, 2) := by decide +kernel
theorem d8_17 : decode prog_52_method_16_code 17 = .ok (.aload_n 0, 1) := by decide +kernel
theorem d8_18 : decode prog_52_method_16_code 18 = .ok (.getfield 14, 3) := by decide +kernel
theorem d8_21 : decode prog_52_method_16_code 21 = .ok (.iload 4, 2) := by decide +kernel
theorem d8_23 : decode prog_52_method_16_code 23 = .ok (.aload_n 0, 1) := by decide +kernel
theorem d8_24 : decode prog_52_method_16_code 24 = .ok (.getfield 73, 3) := by decide +kernel
theorem d8_27 : decode prog_52_method_16_code 27 = .ok (.iushr, 1) := by decide +kernel
theorem d8_28 : decode prog_52_method_16_code 28 = .ok (.aaload, 1) := by decide +kernel
theorem d8_29 : decode prog_52_method_16_code 29 = .ok (.astore 5, 2) := by decide +kernel
theorem d8_31 : decode prog_52_method_16_code 31 = .ok (.iload 4, 2) := by decide +kernel
theorem d8_33 : decode prog_52_method_16_code 33 = .ok (.iconst 1, 1) := by decide +kernel
theorem d8_34 : decode prog_52_method_16_code 34 = .ok (.aload_n 0, 1) := by decide +kernel
theorem d8_35 : decode prog_52_method_16_code 35 = .ok (.getfield 73, 3) := by decide +kernel
theorem d8_38 : decode prog_52_method_16_code 38 = .ok (.ishl, 1) := by decide +kernel
theorem d8_39 : decode prog_52_method_16_code 39 = .ok (.iconst 1, 1) := by decide +kernel
theorem d8_40 : decode prog_52_method_16_code 40 = .ok (.isub, 1) := by decide +kernel
theorem d8_41 : decode prog_52_method_16_code 41 = .ok (.iand, 1) := by decide +kernel
theorem d8_42 : decode prog_52_method_16_code 42 = .ok (.aload_n 0, 1) := by decide +kernel
theorem d8_43 : decode prog_52_method_16_code 43 = .ok (.getfield 54, 3) := by decide +kernel
theorem d8_46 : decode prog_52_method_16_code 46 = .ok (.imul, 1) := by decide +kernel
theorem d8_47 : decode prog_52_method_16_code 47 = .ok (.istore 6, 2) := by decide +kernel
theorem d8_49 : decode prog_52_method_16_code 49 = .ok (.iconst 0, 1) := by decide +kernel
theorem d8_50 : decode prog_52_method_16_code 50 = .ok (.istore 7, 2) := by decide +kernel
theorem d8_52 : decode prog_52_method_16_code 52 = .ok (.iload 7, 2) := by decide +kernel
theorem d8_54 : decode prog_52_method_16_code 54 = .ok (.aload_n 0, 1) := by decide +kernel
theorem d8_55 : decode prog_52_method_16_code 55 = .ok (.getfield 54, 3) := by decide +kernel
theorem d8_58 : decode prog_52_method_16_code 58 = .ok (.if_icmp .ge 30, 3) := by decide +kernel
theorem d8_61 : decode prog_52_method_16_code 61 = .ok (.aload 5, 2) := by decide +kernel
theorem d8_63 : decode prog_52_method_16_code 63 = .ok (.iload 6, 2) := by decide +kernel
theorem d8_65 : decode prog_52_method_16_code 65 = .ok (.iload 7, 2) := by decide +kernel
theorem d8_67 : decode prog_52_method_16_code 67 = .ok (.iadd, 1) := by decide +kernel
theorem d8_68 : decode prog_52_method_16_code 68 = .ok (.laload, 1) := by decide +kernel
theorem d8_69 : decode prog_52_method_16_code 69 = .ok (.aload_n 0, 1) := by decide +kernel
theorem d8_70 : decode prog_52_method_16_code 70 = .ok (.getfield 76, 3) := by decide +kernel
theorem d8_73 : decode prog_52_method_16_code 73 = .ok (.iload 7, 2) := by decide +kernel
theorem d8_75 : decode prog_52_method_16_code 75 = .ok (.laload, 1) := by decide +kernel
theorem d8_76 : decode prog_52_method_16_code 76 = .ok (.lcmp, 1) := by decide +kernel
theorem d8_77 : decode prog_52_method_16_code 77 = .ok (.ifCond .eq 5, 3) := by decide +kernel
theorem d8_80 : decode prog_52_method_16_code 80 = .ok (.iconst 0, 1) := by decide +kernel
theorem d8_81 : decode prog_52_method_16_code 81 = .ok (.ireturn, 1) := by decide +kernel
theorem d8_82 : decode prog_52_method_16_code 82 = .ok (.iinc 7 1, 3) := by decide +kernel
theorem d8_85 : decode prog_52_method_16_code 85 = .ok (.goto (-33), 3) := by decide +kernel
theorem d8_88 : decode prog_52_method_16_code 88 = .ok (.iconst 1, 1) := by decide +kernel
theorem d8_89 : decode prog_52_method_16_code 89 = .ok (.ireturn, 1) := by decide +kernel
theorem d5_0 : decode prog_52_method_2_code 0 = .ok (.aload_n 0, 1) := by decide +kernel
theorem d5_1 : decode prog_52_method_2_code 1 = .ok (.invokespecial 7, 3) := by decide +kernel
theorem d5_4 : decode prog_52_method_2_code 4 = .ok (.aload_n 0, 1) := by decide +kernel
theorem d5_5 : decode prog_52_method_2_code 5 = .ok (.iconst 1, 1) := by decide +kernel
theorem d5_6 : decode prog_52_method_2_code 6 = .ok (.anewarray 12, 3) := by decide +kernel
theorem d5_9 : decode prog_52_method_2_code 9 = .ok (.putfield 14, 3) := by decide +kernel
theorem d5_12 : decode prog_52_method_2_code 12 = .ok (.aload_n 0, 1) := by decide +kernel
theorem d5_13 : decode prog_52_method_2_code 13 = .ok (.sipush 128, 3) := by decide +kernel
theorem d5_16 : decode prog_52_method_2_code 16 = .ok (.newarray .long, 2) := by decide +kernel
theorem d5_18 : decode prog_52_method_2_code 18 = .ok (.putfield 18, 3) := by decide +kernel
theorem d5_21 : decode prog_52_method_2_code 21 = .ok (.aload_n 0, 1) := by decide +kernel
theorem d5_22 : decode prog_52_method_2_code 22 = .ok (.aload_n 1, 1) := by decide +kernel
theorem d5_23 : decode prog_52_method_2_code 23 = .ok (.invokevirtual 21, 3) := by decide +kernel
theorem d5_26 : decode prog_52_method_2_code 26 = .ok (.checkcast 22, 3) := by decide +kernel
theorem d5_29 : decode prog_52_method_2_code 29 = .ok (.putfield 27, 3) := by decide +kernel
theorem d5_32 : decode prog_52_method_2_code 32 = .ok (.aload_n 0, 1) := by decide +kernel
theorem d5_33 : decode prog_52_method_2_code 33 = .ok (.aload_n 2, 1) := by decide +kernel
theorem d5_34 : decode prog_52_method_2_code 34 = .ok (.invokevirtual 21, 3) := by decide +kernel
theorem d5_37 : decode prog_52_method_2_code 37 = .ok (.checkcast 22, 3) := by decide +kernel
theorem d5_40 : decode prog_52_method_2_code 40 = .ok (.putfield 30, 3) := by decide +kernel
theorem d5_43 : decode prog_52_method_2_code 43 = .ok (.aload_n 1, 1) := by decide +kernel
theorem d5_44 : decode prog_52_method_2_code 44 = .ok (.arraylength, 1) := by decide +kernel
theorem d5_45 : decode prog_52_method_2_code 45 = .ok (.istore 4, 2) := by decide +kernel
theorem d5_47 : decode prog_52_method_2_code 47 = .ok (.aload_n 0, 1) := by decide +kernel
theorem d5_48 : decode prog_52_method_2_code 48 = .ok (.iload 4, 2) := by decide +kernel
theorem d5_50 : decode prog_52_method_2_code 50 = .ok (.newarray .int, 2) := by decide +kernel
theorem d5_52 : decode prog_52_method_2_code 52 = .ok (.putfield 33, 3) := by decide +kernel
theorem d5_55 : decode prog_52_method_2_code 55 = .ok (.aload_n 0, 1) := by decide +kernel
theorem d5_56 : decode prog_52_method_2_code 56 = .ok (.iload 4, 2) := by decide +kernel
theorem d5_58 : decode prog_52_method_2_code 58 = .ok (.newarray .long, 2) := by decide +kernel
theorem d5_60 : decode prog_52_method_2_code 60 = .ok (.putfield 36, 3) := by decide +kernel
theorem d5_63 : decode prog_52_method_2_code 63 = .ok (.iload 4, 2) := by decide +kernel
theorem d5_65 : decode prog_52_method_2_code 65 = .ok (.iconst 2, 1) := by decide +kernel
theorem d5_66 : decode prog_52_method_2_code 66 = .ok (.iadd, 1) := by decide +kernel
theorem d5_67 : decode prog_52_method_2_code 67 = .ok (.newarray .int, 2) := by decide +kernel
theorem d5_69 : decode prog_52_method_2_code 69 = .ok (.astore 5, 2) := by decide +kernel
theorem d5_71 : decode prog_52_method_2_code 71 = .ok (.iconst 1, 1) := by decide +kernel
theorem d5_72 : decode prog_52_method_2_code 72 = .ok (.istore 6, 2) := by decide +kernel
theorem d5_74 : decode prog_52_method_2_code 74 = .ok (.iconst 0, 1) := by decide +kernel
theorem d5_75 : decode prog_52_method_2_code 75 = .ok (.istore 7, 2) := by decide +kernel
theorem d5_77 : decode prog_52_method_2_code 77 = .ok (.iconst 0, 1) := by decide +kernel
theorem d5_78 : decode prog_52_method_2_code 78 = .ok (.istore 8, 2) := by decide +kernel
theorem d5_80 : decode prog_52_method_2_code 80 = .ok (.iload 8, 2) := by decide +kernel
theorem d5_82 : decode prog_52_method_2_code 82 = .ok (.iload 4, 2) := by decide +kernel
theorem d5_84 : decode prog_52_method_2_code 84 = .ok (.if_icmp .ge 80, 3) := by decide +kernel
theorem d5_87 : decode prog_52_method_2_code 87 = .ok (.bipush 64, 2) := by decide +kernel
theorem d5_89 : decode prog_52_method_2_code 89 = .ok (.aload_n 2, 1) := by decide +kernel
theorem d5_90 : decode prog_52_method_2_code 90 = .ok (.iload 8, 2) := by decide +kernel
theorem d5_92 : decode prog_52_method_2_code 92 = .ok (.iaload, 1) := by decide +kernel
theorem d5_93 : decode prog_52_method_2_code 93 = .ok (.i2l, 1) := by decide +kernel
theorem d5_94 : decode prog_52_method_2_code 94 = .ok (.aload_n 1, 1) := by decide +kernel
theorem d5_95 : decode prog_52_method_2_code 95 = .ok (.iload 8, 2) := by decide +kernel
theorem d5_97 : decode prog_52_method_2_code 97 = .ok (.iaload, 1) := by decide +kernel
theorem d5_98 : decode prog_52_method_2_code 98 = .ok (.i2l, 1) := by decide +kernel
theorem d5_99 : decode prog_52_method_2_code 99 = .ok (.lsub, 1) := by decide +kernel
theorem d5_100 : decode prog_52_method_2_code 100 = .ok (.invokestatic 41, 3) := by decide +kernel
theorem d5_103 : decode prog_52_method_2_code 103 = .ok (.isub, 1) := by decide +kernel
theorem d5_104 : decode prog_52_method_2_code 104 = .ok (.istore 9, 2) := by decide +kernel
theorem d5_106 : decode prog_52_method_2_code 106 = .ok (.iload 7, 2) := by decide +kernel
theorem d5_108 : decode prog_52_method_2_code 108 = .ok (.iload 9, 2) := by decide +kernel
theorem d5_110 : decode prog_52_method_2_code 110 = .ok (.iadd, 1) := by decide +kernel
theorem d5_111 : decode prog_52_method_2_code 111 = .ok (.bipush 64, 2) := by decide +kernel
theorem d5_113 : decode prog_52_method_2_code 113 = .ok (.if_icmp .le 16, 3) := by decide +kernel
theorem d5_116 : decode prog_52_method_2_code 116 = .ok (.aload 5, 2) := by decide +kernel
theorem d5_118 : decode prog_52_method_2_code 118 = .ok (.iload 6, 2) := by decide +kernel
theorem d5_120 : decode prog_52_method_2_code 120 = .ok (.iinc 6 1, 3) := by decide +kernel
theorem d5_123 : decode prog_52_method_2_code 123 = .ok (.iload 8, 2) := by decide +kernel
theorem d5_125 : decode prog_52_method_2_code 125 = .ok (.iastore, 1) := by decide +kernel
theorem d5_126 : decode prog_52_method_2_code 126 = .ok (.iconst 0, 1) := by decide +kernel
theorem d5_127 : decode prog_52_method_2_code 127 = .ok (.istore 7, 2) := by decide +kernel
theorem d5_129 : decode prog_52_method_2_code 129 = .ok (.aload_n 0, 1) := by decide +kernel
theorem d5_130 : decode prog_52_method_2_code 130 = .ok (.getfield 33, 3) := by decide +kernel
theorem d5_133 : decode prog_52_method_2_code 133 = .ok (.iload 8, 2) := by decide +kernel
theorem d5_135 : decode prog_52_method_2_code 135 = .ok (.iload 7, 2) := by decide +kernel
theorem d5_137 : decode prog_52_method_2_code 137 = .ok (.iastore, 1) := by decide +kernel
theorem d5_138 : decode prog_52_method_2_code 138 = .ok (.aload_n 0, 1) := by decide +kernel
theorem d5_139 : decode prog_52_method_2_code 139 = .ok (.getfield 36, 3) := by decide +kernel
theorem d5_142 : decode prog_52_method_2_code 142 = .ok (.iload 8, 2) := by decide +kernel
theorem d5_144 : decode prog_52_method_2_code 144 = .ok (.lconst 1, 1) := by decide +kernel
theorem d5_145 : decode prog_52_method_2_code 145 = .ok (.iload 9, 2) := by decide +kernel
theorem d5_147 : decode prog_52_method_2_code 147 = .ok (.lshl, 1) := by decide +kernel
theorem d5_148 : decode prog_52_method_2_code 148 = .ok (.lconst 1, 1) := by decide +kernel
theorem d5_149 : decode prog_52_method_2_code 149 = .ok (.lsub, 1) := by decide +kernel
theorem d5_150 : decode prog_52_method_2_code 150 = .ok (.lastore, 1) := by decide +kernel
theorem d5_151 : decode prog_52_method_2_code 151 = .ok (.iload 7, 2) := by decide +kernel
theorem d5_153 : decode prog_52_method_2_code 153 = .ok (.iload 9, 2) := by decide +kernel
theorem d5_155 : decode prog_52_method_2_code 155 = .ok (.iadd, 1) := by decide +kernel
theorem d5_156 : decode prog_52_method_2_code 156 = .ok (.istore 7, 2) := by decide +kernel
theorem d5_158 : decode prog_52_method_2_code 158 = .ok (.iinc 8 1, 3) := by decide +kernel
theorem d5_161 : decode prog_52_method_2_code 161 = .ok (.goto (-81), 3) := by decide +kernel
theorem d5_164 : decode prog_52_method_2_code 164 = .ok (.aload 5, 2) := by decide +kernel
theorem d5_166 : decode prog_52_method_2_code 166 = .ok (.iload 6, 2) := by decide +kernel
theorem d5_168 : decode prog_52_method_2_code 168 = .ok (.iload 4, 2) := by decide +kernel
theorem d5_170 : decode prog_52_method_2_code 170 = .ok (.iastore, 1) := by decide +kernel
theorem d5_171 : decode prog_52_method_2_code 171 = .ok (.aload_n 0, 1) := by decide +kernel
theorem d5_172 : decode prog_52_method_2_code 172 = .ok (.aload 5, 2) := by decide +kernel
theorem d5_174 : decode prog_52_method_2_code 174 = .ok (.iload 6, 2) := by decide +kernel
theorem d5_176 : decode prog_52_method_2_code 176 = .ok (.iconst 1, 1) := by decide +kernel
theorem d5_177 : decode prog_52_method_2_code 177 = .ok (.iadd, 1) := by decide +kernel
theorem d5_178 : decode prog_52_method_2_code 178 = .ok (.invokestatic 45, 3) := by decide +kernel
theorem d5_181 : decode prog_52_method_2_code 181 = .ok (.putfield 51, 3) := by decide +kernel
theorem d5_184 : decode prog_52_method_2_code 184 = .ok (.aload_n 0, 1) := by decide +kernel
theorem d5_185 : decode prog_52_method_2_code 185 = .ok (.iload 6, 2) := by decide +kernel
theorem d5_187 : decode prog_52_method_2_code 187 = .ok (.putfield 54, 3) := by decide +kernel
theorem d5_190 : decode prog_52_method_2_code 190 = .ok (.aload_n 0, 1) := by decide +kernel
theorem d5_191 : decode prog_52_method_2_code 191 = .ok (.aload_n 0, 1) := by decide +kernel
theorem d5_192 : decode prog_52_method_2_code 192 = .ok (.getfield 54, 3) := by decide +kernel
theorem d5_195 : decode prog_52_method_2_code 195 = .ok (.newarray .long, 2) := by decide +kernel
theorem d5_197 : decode prog_52_method_2_code 197 = .ok (.putfield 58, 3) := by decide +kernel
theorem d5_200 : decode prog_52_method_2_code 200 = .ok (.iconst 0, 1) := by decide +kernel
theorem d5_201 : decode prog_52_method_2_code 201 = .ok (.istore 8, 2) := by decide +kernel
theorem d5_203 : decode prog_52_method_2_code 203 = .ok (.iload 8, 2) := by decide +kernel
theorem d5_205 : decode prog_52_method_2_code 205 = .ok (.aload_n 0, 1) := by decide +kernel
theorem d5_206 : decode prog_52_method_2_code 206 = .ok (.getfield 54, 3) := by decide +kernel
theorem d5_209 : decode prog_52_method_2_code 209 = .ok (.if_icmp .ge 69, 3) := by decide +kernel
theorem d5_212 : decode prog_52_method_2_code 212 = .ok (.aload_n 0, 1) := by decide +kernel
theorem d5_213 : decode prog_52_method_2_code 213 = .ok (.getfield 51, 3) := by decide +kernel
theorem d5_216 : decode prog_52_method_2_code 216 = .ok (.iload 8, 2) := by decide +kernel
theorem d5_218 : decode prog_52_method_2_code 218 = .ok (.iaload, 1) := by decide +kernel
theorem d5_219 : decode prog_52_method_2_code 219 = .ok (.istore 9, 2) := by decide +kernel
theorem d5_221 : decode prog_52_method_2_code 221 = .ok (.iload 9, 2) := by decide +kernel
theorem d5_223 : decode prog_52_method_2_code 223 = .ok (.aload_n 0, 1) := by decide +kernel
theorem d5_224 : decode prog_52_method_2_code 224 = .ok (.getfield 51, 3) := by decide +kernel
theorem d5_227 : decode prog_52_method_2_code 227 = .ok (.iload 8, 2) := by decide +kernel
theorem d5_229 : decode prog_52_method_2_code 229 = .ok (.iconst 1, 1) := by decide +kernel
theorem d5_230 : decode prog_52_method_2_code 230 = .ok (.iadd, 1) := by decide +kernel
theorem d5_231 : decode prog_52_method_2_code 231 = .ok (.iaload, 1) := by decide +kernel
theorem d5_232 : decode prog_52_method_2_code 232 = .ok (.if_icmp .ge 40, 3) := by decide +kernel
theorem d5_235 : decode prog_52_method_2_code 235 = .ok (.iload 9, 2) := by decide +kernel
theorem d5_237 : decode prog_52_method_2_code 237 = .ok (.iload_n 3, 1) := by decide +kernel
theorem d5_238 : decode prog_52_method_2_code 238 = .ok (.if_icmp .ge 34, 3) := by decide +kernel
theorem d5_241 : decode prog_52_method_2_code 241 = .ok (.aload_n 0, 1) := by decide +kernel
theorem d5_242 : decode prog_52_method_2_code 242 = .ok (.getfield 58, 3) := by decide +kernel
theorem d5_245 : decode prog_52_method_2_code 245 = .ok (.iload 8, 2) := by decide +kernel
theorem d5_247 : decode prog_52_method_2_code 247 = .ok (.dup2, 1) := by decide +kernel
theorem d5_248 : decode prog_52_method_2_code 248 = .ok (.laload, 1) := by decide +kernel
theorem d5_249 : decode prog_52_method_2_code 249 = .ok (.aload_n 0, 1) := by decide +kernel
theorem d5_250 : decode prog_52_method_2_code 250 = .ok (.getfield 36, 3) := by decide +kernel
theorem d5_253 : decode prog_52_method_2_code 253 = .ok (.iload 9, 2) := by decide +kernel
theorem d5_255 : decode prog_52_method_2_code 255 = .ok (.laload, 1) := by decide +kernel
theorem d5_256 : decode prog_52_method_2_code 256 = .ok (.aload_n 0, 1) := by decide +kernel
theorem d5_257 : decode prog_52_method_2_code 257 = .ok (.getfield 33, 3) := by decide +kernel
theorem d5_260 : decode prog_52_method_2_code 260 = .ok (.iload 9, 2) := by decide +kernel
theorem d5_262 : decode prog_52_method_2_code 262 = .ok (.iaload, 1) := by decide +kernel
theorem d5_263 : decode prog_52_method_2_code 263 = .ok (.lshl, 1) := by decide +kernel
theorem d5_264 : decode prog_52_method_2_code 264 = .ok (.lor, 1) := by decide +kernel
theorem d5_265 : decode prog_52_method_2_code 265 = .ok (.lastore, 1) := by decide +kernel
theorem d5_266 : decode prog_52_method_2_code 266 = .ok (.iinc 9 1, 3) := by decide +kernel
theorem d5_269 : decode prog_52_method_2_code 269 = .ok (.goto (-48), 3) := by decide +kernel
theorem d5_272 : decode prog_52_method_2_code 272 = .ok (.iinc 8 1, 3) := by decide +kernel
theorem d5_275 : decode prog_52_method_2_code 275 = .ok (.goto (-72), 3) := by decide +kernel
theorem d5_278 : decode prog_52_method_2_code 278 = .ok (.aload_n 0, 1) := by decide +kernel
theorem d5_279 : decode prog_52_method_2_code 279 = .ok (.bipush 31, 2) := by decide +kernel
theorem d5_281 : decode prog_52_method_2_code 281 = .ok (.ldc 61, 2) := by decide +kernel
theorem d5_283 : decode prog_52_method_2_code 283 = .ok (.aload_n 0, 1) := by decide +kernel
theorem d5_284 : decode prog_52_method_2_code 284 = .ok (.getfield 54, 3) := by decide +kernel
theorem d5_287 : decode prog_52_method_2_code 287 = .ok (.idiv, 1) := by decide +kernel
theorem d5_288 : decode prog_52_method_2_code 288 = .ok (.iconst 1, 1) := by decide +kernel
theorem d5_289 : decode prog_52_method_2_code 289 = .ok (.invokestatic 62, 3) := by decide +kernel
theorem d5_292 : decode prog_52_method_2_code 292 = .ok (.invokestatic 68, 3) := by decide +kernel
theorem d5_295 : decode prog_52_method_2_code 295 = .ok (.isub, 1) := by decide +kernel
theorem d5_296 : decode prog_52_method_2_code 296 = .ok (.putfield 73, 3) := by decide +kernel
theorem d5_299 : decode prog_52_method_2_code 299 = .ok (.aload_n 0, 1) := by decide +kernel
theorem d5_300 : decode prog_52_method_2_code 300 = .ok (.aload_n 0, 1) := by decide +kernel
theorem d5_301 : decode prog_52_method_2_code 301 = .ok (.getfield 54, 3) := by decide +kernel
theorem d5_304 : decode prog_52_method_2_code 304 = .ok (.newarray .long, 2) := by decide +kernel
theorem d5_306 : decode prog_52_method_2_code 306 = .ok (.putfield 76, 3) := by decide +kernel
theorem d5_309 : decode prog_52_method_2_code 309 = .ok (.return_, 1) := by decide +kernel
theorem d6_0 : decode prog_52_method_3_code 0 = .ok (.ldc 79, 2) := by decide +kernel
theorem d6_2 : decode prog_52_method_3_code 2 = .ok (.ireturn, 1) := by decide +kernel
theorem d15_0 : decode prog_52_method_7_code 0 = .ok (.aload_n 0, 1) := by decide +kernel
theorem d15_1 : decode prog_52_method_7_code 1 = .ok (.aload_n 1, 1) := by decide +kernel
theorem d15_2 : decode prog_52_method_7_code 2 = .ok (.aconst_null, 1) := by decide +kernel
theorem d15_3 : decode prog_52_method_7_code 3 = .ok (.invokevirtual 98, 3) := by decide +kernel
theorem d15_6 : decode prog_52_method_7_code 6 = .ok (.ireturn, 1) := by decide +kernel
theorem d14_0 : decode prog_52_method_8_code 0 = .ok (.aload_n 0, 1) := by decide +kernel
theorem d14_1 : decode prog_52_method_8_code 1 = .ok (.aload_n 1, 1) := by decide +kernel
theorem d14_2 : decode prog_52_method_8_code 2 = .ok (.invokevirtual 87, 3) := by decide +kernel
theorem d14_5 : decode prog_52_method_8_code 5 = .ok (.istore_n 3, 1) := by decide +kernel
theorem d14_6 : decode prog_52_method_8_code 6 = .ok (.aload_n 0, 1) := by decide +kernel
theorem d14_7 : decode prog_52_method_8_code 7 = .ok (.iload_n 3, 1) := by decide +kernel
theorem d14_8 : decode prog_52_method_8_code 8 = .ok (.invokevirtual 91, 3) := by decide +kernel
theorem d14_11 : decode prog_52_method_8_code 11 = .ok (.istore 4, 2) := by decide +kernel
theorem d14_13 : decode prog_52_method_8_code 13 = .ok (.aload_n 0, 1) := by decide +kernel
theorem d14_14 : decode prog_52_method_8_code 14 = .ok (.getfield 18, 3) := by decide +kernel
theorem d14_17 : decode prog_52_method_8_code 17 = .ok (.iload 4, 2) := by decide +kernel
theorem d14_19 : decode prog_52_method_8_code 19 = .ok (.laload, 1) := by decide +kernel
theorem d14_20 : decode prog_52_method_8_code 20 = .ok (.lconst 0, 1) := by decide +kernel
theorem d14_21 : decode prog_52_method_8_code 21 = .ok (.lcmp, 1) := by decide +kernel
theorem d14_22 : decode prog_52_method_8_code 22 = .ok (.ifCond .eq 14, 3) := by decide +kernel
theorem d14_25 : decode prog_52_method_8_code 25 = .ok (.aload_n 0, 1) := by decide +kernel
theorem d14_26 : decode prog_52_method_8_code 26 = .ok (.getfield 18, 3) := by decide +kernel
theorem d14_29 : decode prog_52_method_8_code 29 = .ok (.iload 4, 2) := by decide +kernel
theorem d14_31 : decode prog_52_method_8_code 31 = .ok (.laload, 1) := by decide +kernel
theorem d14_32 : decode prog_52_method_8_code 32 = .ok (.l2i, 1) := by decide +kernel
theorem d14_33 : decode prog_52_method_8_code 33 = .ok (.iconst 1, 1) := by decide +kernel
theorem d14_34 : decode prog_52_method_8_code 34 = .ok (.isub, 1) := by decide +kernel
theorem d14_35 : decode prog_52_method_8_code 35 = .ok (.ireturn, 1) := by decide +kernel
theorem d14_36 : decode prog_52_method_8_code 36 = .ok (.aload_n 0, 1) := by decide +kernel
theorem d14_37 : decode prog_52_method_8_code 37 = .ok (.iload_n 3, 1) := by decide +kernel
theorem d14_38 : decode prog_52_method_8_code 38 = .ok (.aload_n 2, 1) := by decide +kernel
theorem d14_39 : decode prog_52_method_8_code 39 = .ok (.invokevirtual 94, 3) := by decide +kernel
theorem d14_42 : decode prog_52_method_8_code 42 = .ok (.istore 5, 2) := by decide +kernel
theorem d14_44 : decode prog_52_method_8_code 44 = .ok (.iload 5, 2) := by decide +kernel
theorem d14_46 : decode prog_52_method_8_code 46 = .ok (.ifCond .lt 6, 3) := by decide +kernel
theorem d14_52 : decode prog_52_method_8_code 52 = .ok (.aload_n 0, 1) := by decide +kernel
theorem d14_53 : decode prog_52_method_8_code 53 = .ok (.getfield 80, 3) := by decide +kernel
theorem d14_56 : decode prog_52_method_8_code 56 = .ok (.aload_n 0, 1) := by decide +kernel
theorem d14_57 : decode prog_52_method_8_code 57 = .ok (.invokevirtual 101, 3) := by decide +kernel
theorem d14_60 : decode prog_52_method_8_code 60 = .ok (.if_icmp .ne 20, 3) := by decide +kernel
theorem d14_80 : decode prog_52_method_8_code 80 = .ok (.aload_n 0, 1) := by decide +kernel
theorem d14_81 : decode prog_52_method_8_code 81 = .ok (.getfield 80, 3) := by decide +kernel
theorem d14_84 : decode prog_52_method_8_code 84 = .ok (.aload_n 0, 1) := by decide +kernel
theorem d14_85 : decode prog_52_method_8_code 85 = .ok (.getfield 73, 3) := by decide +kernel
theorem d14_88 : decode prog_52_method_8_code 88 = .ok (.iushr, 1) := by decide +kernel
theorem d14_89 : decode prog_52_method_8_code 89 = .ok (.istore 6, 2) := by decide +kernel
theorem d14_91 : decode prog_52_method_8_code 91 = .ok (.aload_n 0, 1) := by decide +kernel
theorem d14_92 : decode prog_52_method_8_code 92 = .ok (.getfield 80, 3) := by decide +kernel
theorem d14_95 : decode prog_52_method_8_code 95 = .ok (.iconst 1, 1) := by decide +kernel
theorem d14_96 : decode prog_52_method_8_code 96 = .ok (.aload_n 0, 1) := by decide +kernel
theorem d14_97 : decode prog_52_method_8_code 97 = .ok (.getfield 73, 3) := by decide +kernel
theorem d14_100 : decode prog_52_method_8_code 100 = .ok (.ishl, 1) := by decide +kernel
theorem d14_101 : decode prog_52_method_8_code 101 = .ok (.iconst 1, 1) := by decide +kernel
theorem d14_102 : decode prog_52_method_8_code 102 = .ok (.isub, 1) := by decide +kernel
theorem d14_103 : decode prog_52_method_8_code 103 = .ok (.iand, 1) := by decide +kernel
theorem d14_104 : decode prog_52_method_8_code 104 = .ok (.aload_n 0, 1) := by decide +kernel
theorem d14_105 : decode prog_52_method_8_code 105 = .ok (.getfield 54, 3) := by decide +kernel
theorem d14_108 : decode prog_52_method_8_code 108 = .ok (.imul, 1) := by decide +kernel
theorem d14_109 : decode prog_52_method_8_code 109 = .ok (.istore 7, 2) := by decide +kernel
theorem d14_111 : decode prog_52_method_8_code 111 = .ok (.iload 6, 2) := by decide +kernel
theorem d14_113 : decode prog_52_method_8_code 113 = .ok (.aload_n 0, 1) := by decide +kernel
theorem d14_114 : decode prog_52_method_8_code 114 = .ok (.getfield 14, 3) := by decide +kernel
theorem d14_117 : decode prog_52_method_8_code 117 = .ok (.arraylength, 1) := by decide +kernel
theorem d14_118 : decode prog_52_method_8_code 118 = .ok (.if_icmp .eq 26, 3) := by decide +kernel
theorem d14_121 : decode prog_52_method_8_code 121 = .ok (.aload_n 0, 1) := by decide +kernel
theorem d14_122 : decode prog_52_method_8_code 122 = .ok (.getfield 14, 3) := by decide +kernel
theorem d14_125 : decode prog_52_method_8_code 125 = .ok (.iload 6, 2) := by decide +kernel
theorem d14_127 : decode prog_52_method_8_code 127 = .ok (.aaload, 1) := by decide +kernel
theorem d14_128 : decode prog_52_method_8_code 128 = .ok (.ifnull 16, 3) := by decide +kernel
theorem d14_131 : decode prog_52_method_8_code 131 = .ok (.aload_n 0, 1) := by decide +kernel
theorem d14_132 : decode prog_52_method_8_code 132 = .ok (.getfield 14, 3) := by decide +kernel
theorem d14_135 : decode prog_52_method_8_code 135 = .ok (.iload 6, 2) := by decide +kernel
theorem d14_137 : decode prog_52_method_8_code 137 = .ok (.aaload, 1) := by decide +kernel
theorem d14_138 : decode prog_52_method_8_code 138 = .ok (.arraylength, 1) := by decide +kernel
theorem d14_139 : decode prog_52_method_8_code 139 = .ok (.iload 7, 2) := by decide +kernel
theorem d14_141 : decode prog_52_method_8_code 141 = .ok (.if_icmp .ne 11, 3) := by decide +kernel
theorem d14_144 : decode prog_52_method_8_code 144 = .ok (.aload_n 0, 1) := by decide +kernel
theorem d14_145 : decode prog_52_method_8_code 145 = .ok (.iload 6, 2) := by decide +kernel
theorem d14_147 : decode prog_52_method_8_code 147 = .ok (.iload 7, 2) := by decide +kernel
theorem d14_149 : decode prog_52_method_8_code 149 = .ok (.invokevirtual 114, 3) := by decide +kernel
theorem d14_152 : decode prog_52_method_8_code 152 = .ok (.aload_n 0, 1) := by decide +kernel
theorem d14_153 : decode prog_52_method_8_code 153 = .ok (.getfield 76, 3) := by decide +kernel
theorem d14_156 : decode prog_52_method_8_code 156 = .ok (.iconst 0, 1) := by decide +kernel
theorem d14_157 : decode prog_52_method_8_code 157 = .ok (.aload_n 0, 1) := by decide +kernel
theorem d14_158 : decode prog_52_method_8_code 158 = .ok (.getfield 14, 3) := by decide +kernel
theorem d14_161 : decode prog_52_method_8_code 161 = .ok (.iload 6, 2) := by decide +kernel
theorem d14_163 : decode prog_52_method_8_code 163 = .ok (.aaload, 1) := by decide +kernel
theorem d14_164 : decode prog_52_method_8_code 164 = .ok (.iload 7, 2) := by decide +kernel
theorem d14_166 : decode prog_52_method_8_code 166 = .ok (.aload_n 0, 1) := by decide +kernel
theorem d14_167 : decode prog_52_method_8_code 167 = .ok (.getfield 54, 3) := by decide +kernel
theorem d14_170 : decode prog_52_method_8_code 170 = .ok (.invokestatic 118, 3) := by decide +kernel
theorem d14_173 : decode prog_52_method_8_code 173 = .ok (.aload_n 0, 1) := by decide +kernel
theorem d14_174 : decode prog_52_method_8_code 174 = .ok (.dup, 1) := by decide +kernel
theorem d14_175 : decode prog_52_method_8_code 175 = .ok (.getfield 80, 3) := by decide +kernel
theorem d14_178 : decode prog_52_method_8_code 178 = .ok (.iconst 1, 1) := by decide +kernel
theorem d14_179 : decode prog_52_method_8_code 179 = .ok (.iadd, 1) := by decide +kernel
theorem d14_180 : decode prog_52_method_8_code 180 = .ok (.putfield 80, 3) := by decide +kernel
theorem d14_183 : decode prog_52_method_8_code 183 = .ok (.aload_n 0, 1) := by decide +kernel
theorem d14_184 : decode prog_52_method_8_code 184 = .ok (.getfield 18, 3) := by decide +kernel
theorem d14_187 : decode prog_52_method_8_code 187 = .ok (.iload 4, 2) := by decide +kernel
theorem d14_189 : decode prog_52_method_8_code 189 = .ok (.iload_n 3, 1) := by decide +kernel
theorem d14_190 : decode prog_52_method_8_code 190 = .ok (.i2l, 1) := by decide +kernel
theorem d14_191 : decode prog_52_method_8_code 191 = .ok (.bipush 32, 2) := by decide +kernel
theorem d14_193 : decode prog_52_method_8_code 193 = .ok (.lshl, 1) := by decide +kernel
theorem d14_194 : decode prog_52_method_8_code 194 = .ok (.aload_n 0, 1) := by decide +kernel
theorem d14_195 : decode prog_52_method_8_code 195 = .ok (.getfield 80, 3) := by decide +kernel
theorem d14_198 : decode prog_52_method_8_code 198 = .ok (.i2l, 1) := by decide +kernel
theorem d14_199 : decode prog_52_method_8_code 199 = .ok (.lor, 1) := by decide +kernel
theorem d14_200 : decode prog_52_method_8_code 200 = .ok (.lastore, 1) := by decide +kernel
theorem d14_201 : decode prog_52_method_8_code 201 = .ok (.ldc2_w 124, 3) := by decide +kernel
theorem d14_204 : decode prog_52_method_8_code 204 = .ok (.aload_n 0, 1) := by decide +kernel
theorem d14_205 : decode prog_52_method_8_code 205 = .ok (.getfield 80, 3) := by decide +kernel
theorem d14_208 : decode prog_52_method_8_code 208 = .ok (.i2l, 1) := by decide +kernel
theorem d14_209 : decode prog_52_method_8_code 209 = .ok (.lmul, 1) := by decide +kernel
theorem d14_210 : decode prog_52_method_8_code 210 = .ok (.aload_n 0, 1) := by decide +kernel
theorem d14_211 : decode prog_52_method_8_code 211 = .ok (.getfield 18, 3) := by decide +kernel
theorem d14_214 : decode prog_52_method_8_code 214 = .ok (.arraylength, 1) := by decide +kernel
theorem d14_215 : decode prog_52_method_8_code 215 = .ok (.i2l, 1) := by decide +kernel
theorem d14_216 : decode prog_52_method_8_code 216 = .ok (.lcmp, 1) := by decide +kernel
theorem d14_217 : decode prog_52_method_8_code 217 = .ok (.ifCond .le 7, 3) := by decide +kernel
theorem d14_224 : decode prog_52_method_8_code 224 = .ok (.aload_n 0, 1) := by decide +kernel
theorem d14_225 : decode prog_52_method_8_code 225 = .ok (.getfield 80, 3) := by decide +kernel
theorem d14_228 : decode prog_52_method_8_code 228 = .ok (.iconst 1, 1) := by decide +kernel
theorem d14_229 : decode prog_52_method_8_code 229 = .ok (.isub, 1) := by decide +kernel
theorem d14_230 : decode prog_52_method_8_code 230 = .ok (.ireturn, 1) := by decide +kernel
theorem own_eqI {args : Array Value} {first s : State} {o : Option Outcome} {idx : List Nat} {t : Term} {k : Int32} (h : (Jvm.Cond.eq t (.int k)).value args first o s idx = some true) : t.eval args first o idx s = some (.int k) := by
  simp only [Cond.value, Term.eval] at h
  cases ht : t.eval args first o idx s with
  | none => simp [ht] at h
  | some x => cases x <;> simp [ht] at h ⊢; exact h
def stg (t sh : Int32) (q : Int32 × Int32) : Int32 × Int32 := if q.1 < t then q else ((q.1.toUInt32 >>> (sh &&& 31).toUInt32).toInt32, q.2 + (-sh))
def fin1 (q : Int32 × Int32) : Int32 := q.2 - (q.1.toUInt32 >>> ((1 : Int32) &&& 31).toUInt32).toInt32
def nlI (x : Int32) : Int32 := if 0 < x then fin1 (stg 4 2 (stg 16 4 (stg 256 8 (stg 65536 16 (x, 31))))) else if x = 0 then 32 else 0
def NInv (x : Int) (B M : Nat) (q : Int32 × Int32) : Prop := ∃ m : Nat, m ≤ M ∧ q.2.toInt = 31 - m ∧ q.1.toInt = x / 2 ^ m ∧ 1 ≤ q.1.toInt ∧ q.1.toInt < 2 ^ B
theorem nstage {x : Int} {B M k : Nat} {t sh : Int32} {q : Int32 × Int32} (I : NInv x B M q) (hk : 0 < k) (hk2 : k ≤ 16) (hB : B ≤ 2 * k) (hs : sh.toInt = k) (hsb : sh.toBitVec.toNat % 32 = k) (ht : t.toInt = 2 ^ k) (hM : M + k ≤ 31) : NInv x k (M + k) (stg t sh q) := by
  obtain ⟨m, h1, h2, h3, h4, h5⟩ := I
  unfold stg
  by_cases c : q.1 < t
  · rw [if_pos c]
    refine ⟨m, by omega, h2, h3, h4, ?_⟩
    rw [Int32.lt_iff_toInt_lt, ht] at c
    exact c
  · rw [if_neg c]
    rw [Int32.lt_iff_toInt_lt, ht] at c
    have u := c_iushr q.1 sh k hsb hk
    have r := rng32 q.1
    have e : q.1.toInt % 4294967296 = q.1.toInt := Int.emod_eq_of_lt (by omega) (by omega)
    rw [e] at u
    have P : (0 : Int) < 2 ^ k := Int.pow_pos (by decide)
    have P2 : ((2 ^ k : Nat) : Int) = 2 ^ k := by simp
    rw [P2] at u
    refine ⟨m + k, by omega, ?_, ?_, ?_, ?_⟩
    · show (q.2 + -sh).toInt = _
      have a1 := c_iadd q.2 (-sh)
      have a2 := c_ineg sh
      have a3 := rng32 (q.2 + -sh)
      have a4 := rng32 (-sh)
      omega
    · show ((q.1.toUInt32 >>> (sh &&& 31).toUInt32).toInt32).toInt = _
      rw [u, h3, Int.pow_add, Int.ediv_ediv_of_nonneg (Int.le_of_lt (Int.pow_pos (by decide)))]
    · show 1 ≤ ((q.1.toUInt32 >>> (sh &&& 31).toUInt32).toInt32).toInt
      rw [u]
      exact (Int.le_ediv_iff_mul_le P).mpr (by omega)
    · show ((q.1.toUInt32 >>> (sh &&& 31).toUInt32).toInt32).toInt < _
      rw [u]
      refine Int.ediv_lt_of_lt_mul P ?_
      have : (2 : Int) ^ B ≤ 2 ^ k * 2 ^ k := by
        rw [← Int.pow_add]
        have q1 : (2 : Nat) ^ B ≤ 2 ^ (k + k) := Nat.pow_le_pow_right (by decide) (by omega)
        exact_mod_cast q1
      omega
theorem nlI_spec (x : Int32) : ∃ m : Nat, m ≤ 32 ∧ (nlI x).toInt = 32 - m ∧ x.toInt % 4294967296 < 2 ^ m := by
  have r := rng32 x
  unfold nlI
  by_cases c : 0 < x
  · rw [if_pos c]
    rw [Int32.lt_iff_toInt_lt, show (0 : Int32).toInt = 0 from by decide] at c
    have I0 : NInv x.toInt 31 0 (x, 31) := ⟨0, by omega, (by decide : (31 : Int32).toInt = 31 - ((0 : Nat) : Int)), by simp, by show 1 ≤ x.toInt; omega, by show x.toInt < 2 ^ 31; omega⟩
    have I1 := nstage (B := 31) (k := 16) (t := 65536) (sh := 16) I0 (by decide) (by decide) (by decide) (by decide) (by decide) (by decide) (by decide)
    have I2 := nstage (k := 8) (t := 256) (sh := 8) I1 (by decide) (by decide) (by decide) (by decide) (by decide) (by decide) (by decide)
    have I3 := nstage (k := 4) (t := 16) (sh := 4) I2 (by decide) (by decide) (by decide) (by decide) (by decide) (by decide) (by decide)
    have I4 := nstage (k := 2) (t := 4) (sh := 2) I3 (by decide) (by decide) (by decide) (by decide) (by decide) (by decide) (by decide)
    generalize stg 4 2 (stg 16 4 (stg 256 8 (stg 65536 16 (x, 31)))) = q at I4
    obtain ⟨m, h1, h2, h3, h4, h5⟩ := I4
    have u := c_iushr q.1 1 1 (by decide) (by decide)
    have e : q.1.toInt % 4294967296 = q.1.toInt := Int.emod_eq_of_lt (by omega) (by omega)
    rw [e] at u
    have a1 := c_isub q.2 ((q.1.toUInt32 >>> ((1 : Int32) &&& 31).toUInt32).toInt32)
    have a3 := rng32 (q.2 - (q.1.toUInt32 >>> ((1 : Int32) &&& 31).toUInt32).toInt32)
    have P : (0 : Int) < 2 ^ m := Int.pow_pos (by decide)
    have hx : x.toInt < (q.1.toInt + 1) * 2 ^ m := by
      rw [h3]
      exact Int.lt_ediv_add_one_mul_self _ P
    have ex : x.toInt % 4294967296 = x.toInt := Int.emod_eq_of_lt (by omega) (by omega)
    by_cases q2 : q.1.toInt < 2
    · refine ⟨m + 1, by omega, ?_, ?_⟩
      · show (q.2 - (q.1.toUInt32 >>> ((1 : Int32) &&& 31).toUInt32).toInt32).toInt = _
        omega
      · rw [ex, Int.pow_succ]
        have : q.1.toInt = 1 := by omega
        rw [this] at hx
        omega
    · refine ⟨m + 2, by omega, ?_, ?_⟩
      · show (q.2 - (q.1.toUInt32 >>> ((1 : Int32) &&& 31).toUInt32).toInt32).toInt = _
        omega
      · rw [ex, Int.pow_succ, Int.pow_succ]
        have : (q.1.toInt + 1) * 2 ^ m ≤ 4 * 2 ^ m := Int.mul_le_mul_of_nonneg_right (by omega) (Int.le_of_lt P)
        omega
  · rw [if_neg c]
    rw [Int32.lt_iff_toInt_lt, show (0 : Int32).toInt = 0 from by decide] at c
    by_cases z : x = 0
    · rw [if_pos z, z]
      exact ⟨0, by decide, by decide, by decide⟩
    · rw [if_neg z]
      exact ⟨32, by decide, by decide, Int.emod_lt_of_pos _ (by decide)⟩
set_option maxRecDepth 65536 in
set_option maxHeartbeats 4000000 in
theorem max_met (l : Launch) (Z : State) (a0 : Array Value) (hw : ∀ d ∈ tables_1, d.before a0 Z = true) (n0 : Nat) (h : Heap) (O : Old Z n0 h) (a b r : Int32) (hr : (if a < b then b else a) = r) :
    Met l Z n0 (⟨"java/lang/Math", "max", "(II)I"⟩ : MethodName) jdk_29_method_65_code 2 (some .int) [] ({ frames := 0, cells := 0, slots := 0, locals := 0 } : Room) #[(.int a), (.int b)] h (fun v h' => v = some (.int r) ∧ h = h') := by
  refine met_of (Ls := #[(.val (.int a)), (.val (.int b))]) (by decide +kernel) (fun m => by first | (simp [entryFrame, mkF, argsToLocals, Value.category]; done) | rfl) O ?_
  intro p e s m below meth cd C
  refine go_iloadN C (pc' := 1) d0_0 rfl rfl ?_
  refine go_iloadN C (pc' := 2) d0_1 rfl rfl ?_
  by_cases hc1 : a < b
  · refine go_icmpYes C (pc' := 9) d0_2 (tlt hc1).1 (by decide) (by decide) ?_
    refine go_iloadN C (pc' := 10) d0_9 rfl rfl ?_
    exact go_retI C d0_10 (by decide) (by decide) ⟨congrArg (fun z => some (Value.int z)) ((if_pos hc1).symm.trans hr), rfl⟩
  · refine go_icmpNo C (pc' := 5) d0_2 (flt hc1).1 rfl ?_
    refine go_iloadN C (pc' := 6) d0_5 rfl rfl ?_
    refine go_goto C (pc' := 10) d0_6 (by decide) (by decide) ?_
    exact go_retI C d0_10 (by decide) (by decide) ⟨congrArg (fun z => some (Value.int z)) ((if_neg hc1).symm.trans hr), rfl⟩
set_option maxRecDepth 65536 in
set_option maxHeartbeats 4000000 in
theorem min_met (l : Launch) (Z : State) (a0 : Array Value) (hw : ∀ d ∈ tables_1, d.before a0 Z = true) (n0 : Nat) (h : Heap) (O : Old Z n0 h) (a b r : Int32) (hr : (if b < a then b else a) = r) :
    Met l Z n0 (⟨"java/lang/Math", "min", "(II)I"⟩ : MethodName) jdk_29_method_69_code 2 (some .int) [] ({ frames := 0, cells := 0, slots := 0, locals := 0 } : Room) #[(.int a), (.int b)] h (fun v h' => v = some (.int r) ∧ h = h') := by
  refine met_of (Ls := #[(.val (.int a)), (.val (.int b))]) (by decide +kernel) (fun m => by first | (simp [entryFrame, mkF, argsToLocals, Value.category]; done) | rfl) O ?_
  intro p e s m below meth cd C
  refine go_iloadN C (pc' := 1) d1_0 rfl rfl ?_
  refine go_iloadN C (pc' := 2) d1_1 rfl rfl ?_
  by_cases hc1 : b < a
  · refine go_icmpYes C (pc' := 9) d1_2 (tlt hc1).2.2.1 (by decide) (by decide) ?_
    refine go_iloadN C (pc' := 10) d1_9 rfl rfl ?_
    exact go_retI C d1_10 (by decide) (by decide) ⟨congrArg (fun z => some (Value.int z)) ((if_pos hc1).symm.trans hr), rfl⟩
  · refine go_icmpNo C (pc' := 5) d1_2 (flt hc1).2.2.1 rfl ?_
    refine go_iloadN C (pc' := 6) d1_5 rfl rfl ?_
    refine go_goto C (pc' := 10) d1_6 (by decide) (by decide) ?_
    exact go_retI C d1_10 (by decide) (by decide) ⟨congrArg (fun z => some (Value.int z)) ((if_neg hc1).symm.trans hr), rfl⟩
set_option maxRecDepth 65536 in
set_option maxHeartbeats 4000000 in
theorem nlz_met (l : Launch) (Z : State) (a0 : Array Value) (hw : ∀ d ∈ tables_1, d.before a0 Z = true) (n0 : Nat) (h : Heap) (O : Old Z n0 h) (x : Int32) :
    Met l Z n0 (⟨"java/lang/Integer", "numberOfLeadingZeros", "(I)I"⟩ : MethodName) jdk_33_method_47_code 2 (some .int) [] ({ frames := 0, cells := 0, slots := 0, locals := 0 } : Room) #[(.int x)] h (fun v h' => v = some (.int (nlI x)) ∧ h = h') := by
  refine met_of (Ls := #[(.val (.int x)), .unset]) (by decide +kernel) (fun m => by first | (simp [entryFrame, mkF, argsToLocals, Value.category]; done) | rfl) O ?_
  intro p e s m below meth cd C
  have J73 : ∀ (a n : Int32), fin1 (a, n) = nlI x → Go p l e ({ frames := 0, cells := 0, slots := 0, locals := 0 } : Room) s m #[(.int x)] below meth cd Z n0 (fun v h' => v = some (.int (nlI x)) ∧ h = h') 0 0 h 0 0 (mkF m 73 #[(.val (.int a)), (.val (.int n))] []) := by
    intro a n hq
    refine go_iloadN C (pc' := 74) d2_73 rfl rfl ?_
    refine go_iloadN C (pc' := 75) d2_74 rfl rfl ?_
    refine go_iconst C (pc' := 76) d2_75 (z := (1 : Int32)) (by decide) rfl ?_
    refine go_iushr C (pc' := 77) d2_76 rfl ?_
    refine go_isub C (pc' := 78) d2_77 rfl ?_
    exact go_retI C d2_78 (by decide) (by decide) ⟨by rw [← hq]; rfl, rfl⟩
  have J61 : ∀ (a n : Int32), fin1 (stg 4 2 (a, n)) = nlI x → Go p l e ({ frames := 0, cells := 0, slots := 0, locals := 0 } : Room) s m #[(.int x)] below meth cd Z n0 (fun v h' => v = some (.int (nlI x)) ∧ h = h') 0 0 h 0 0 (mkF m 61 #[(.val (.int a)), (.val (.int n))] []) := by
    intro a n hq
    refine go_iloadN C (pc' := 62) d2_61 rfl rfl ?_
    refine go_iconst C (pc' := 63) d2_62 (z := (4 : Int32)) (by decide) rfl ?_
    by_cases hc1 : a < (4 : Int32)
    · refine go_icmpYes C (pc' := 73) d2_63 (tlt hc1).1 (by decide) (by decide) ?_
      exact J73 a n (by rw [← hq, show stg 4 2 (a, n) = (a, n) from if_pos hc1])
    · refine go_icmpNo C (pc' := 66) d2_63 (flt hc1).1 rfl ?_
      refine go_iinc C (pc' := 69) d2_66 rfl (Ls' := #[(.val (.int a)), (.val (.int (n + (-2 : Int32))))]) rfl rfl ?_
      refine go_iloadN C (pc' := 70) d2_69 rfl rfl ?_
      refine go_iconst C (pc' := 71) d2_70 (z := (2 : Int32)) (by decide) rfl ?_
      refine go_iushr C (pc' := 72) d2_71 rfl ?_
      refine go_istoreN C (pc' := 73) d2_72 (Ls' := #[(.val (.int ((a).toUInt32 >>> ((2 : Int32) &&& 31).toUInt32).toInt32)), (.val (.int (n + (-2 : Int32))))]) rfl rfl ?_
      exact J73 _ _ (by rw [← hq, show stg 4 2 (a, n) = (_, _) from if_neg hc1])
  have J48 : ∀ (a n : Int32), fin1 (stg 4 2 (stg 16 4 (a, n))) = nlI x → Go p l e ({ frames := 0, cells := 0, slots := 0, locals := 0 } : Room) s m #[(.int x)] below meth cd Z n0 (fun v h' => v = some (.int (nlI x)) ∧ h = h') 0 0 h 0 0 (mkF m 48 #[(.val (.int a)), (.val (.int n))] []) := by
    intro a n hq
    refine go_iloadN C (pc' := 49) d2_48 rfl rfl ?_
    refine go_bipush C (pc' := 51) d2_49 (z := (16 : Int32)) (by decide) rfl ?_
    by_cases hc2 : a < (16 : Int32)
    · refine go_icmpYes C (pc' := 61) d2_51 (tlt hc2).1 (by decide) (by decide) ?_
      exact J61 a n (by rw [← hq, show stg 16 4 (a, n) = (a, n) from if_pos hc2])
    · refine go_icmpNo C (pc' := 54) d2_51 (flt hc2).1 rfl ?_
      refine go_iinc C (pc' := 57) d2_54 rfl (Ls' := #[(.val (.int a)), (.val (.int (n + (-4 : Int32))))]) rfl rfl ?_
      refine go_iloadN C (pc' := 58) d2_57 rfl rfl ?_
      refine go_iconst C (pc' := 59) d2_58 (z := (4 : Int32)) (by decide) rfl ?_
      refine go_iushr C (pc' := 60) d2_59 rfl ?_
      refine go_istoreN C (pc' := 61) d2_60 (Ls' := #[(.val (.int ((a).toUInt32 >>> ((4 : Int32) &&& 31).toUInt32).toInt32)), (.val (.int (n + (-4 : Int32))))]) rfl rfl ?_
      exact J61 _ _ (by rw [← hq, show stg 16 4 (a, n) = (_, _) from if_neg hc2])
  have J33 : ∀ (a n : Int32), fin1 (stg 4 2 (stg 16 4 (stg 256 8 (a, n)))) = nlI x → Go p l e ({ frames := 0, cells := 0, slots := 0, locals := 0 } : Room) s m #[(.int x)] below meth cd Z n0 (fun v h' => v = some (.int (nlI x)) ∧ h = h') 0 0 h 0 0 (mkF m 33 #[(.val (.int a)), (.val (.int n))] []) := by
    intro a n hq
    refine go_iloadN C (pc' := 34) d2_33 rfl rfl ?_
    refine go_sipush C (pc' := 37) d2_34 (z := (256 : Int32)) (by decide) rfl ?_
    by_cases hc3 : a < (256 : Int32)
    · refine go_icmpYes C (pc' := 48) d2_37 (tlt hc3).1 (by decide) (by decide) ?_
      exact J48 a n (by rw [← hq, show stg 256 8 (a, n) = (a, n) from if_pos hc3])
    · refine go_icmpNo C (pc' := 40) d2_37 (flt hc3).1 rfl ?_
      refine go_iinc C (pc' := 43) d2_40 rfl (Ls' := #[(.val (.int a)), (.val (.int (n + (-8 : Int32))))]) rfl rfl ?_
      refine go_iloadN C (pc' := 44) d2_43 rfl rfl ?_
      refine go_bipush C (pc' := 46) d2_44 (z := (8 : Int32)) (by decide) rfl ?_
      refine go_iushr C (pc' := 47) d2_46 rfl ?_
      refine go_istoreN C (pc' := 48) d2_47 (Ls' := #[(.val (.int ((a).toUInt32 >>> ((8 : Int32) &&& 31).toUInt32).toInt32)), (.val (.int (n + (-8 : Int32))))]) rfl rfl ?_
      exact J48 _ _ (by rw [← hq, show stg 256 8 (a, n) = (_, _) from if_neg hc3])
  have J18 : ∀ (a n : Int32), fin1 (stg 4 2 (stg 16 4 (stg 256 8 (stg 65536 16 (a, n))))) = nlI x → Go p l e ({ frames := 0, cells := 0, slots := 0, locals := 0 } : Room) s m #[(.int x)] below meth cd Z n0 (fun v h' => v = some (.int (nlI x)) ∧ h = h') 0 0 h 0 0 (mkF m 18 #[(.val (.int a)), (.val (.int n))] []) := by
    intro a n hq
    refine go_iloadN C (pc' := 19) d2_18 rfl rfl ?_
    refine go_ldcwInt C (pc' := 22) (wd_52 hw) d2_19 rfl ?_
    by_cases hc4 : a < (65536 : Int32)
    · refine go_icmpYes C (pc' := 33) d2_22 (tlt hc4).1 (by decide) (by decide) ?_
      exact J33 a n (by rw [← hq, show stg 65536 16 (a, n) = (a, n) from if_pos hc4])
    · refine go_icmpNo C (pc' := 25) d2_22 (flt hc4).1 rfl ?_
      refine go_iinc C (pc' := 28) d2_25 rfl (Ls' := #[(.val (.int a)), (.val (.int (n + (-16 : Int32))))]) rfl rfl ?_
      refine go_iloadN C (pc' := 29) d2_28 rfl rfl ?_
      refine go_bipush C (pc' := 31) d2_29 (z := (16 : Int32)) (by decide) rfl ?_
      refine go_iushr C (pc' := 32) d2_31 rfl ?_
      refine go_istoreN C (pc' := 33) d2_32 (Ls' := #[(.val (.int ((a).toUInt32 >>> ((16 : Int32) &&& 31).toUInt32).toInt32)), (.val (.int (n + (-16 : Int32))))]) rfl rfl ?_
      exact J33 _ _ (by rw [← hq, show stg 65536 16 (a, n) = (_, _) from if_neg hc4])
  refine go_iloadN C (pc' := 1) d2_0 rfl rfl ?_
  by_cases hc5 : 0 < x
  · refine go_ifYes C (pc' := 15) d2_1 ((if0 _ _).trans (tlt hc5).2.2.1) (by decide) (by decide) ?_
    refine go_bipush C (pc' := 17) d2_15 (z := (31 : Int32)) (by decide) rfl ?_
    refine go_istoreN C (pc' := 18) d2_17 (Ls' := #[(.val (.int x)), (.val (.int (31 : Int32)))]) rfl rfl ?_
    exact J18 _ _ (by rw [nlI, if_pos hc5])
  · refine go_ifNo C (pc' := 4) d2_1 ((if0 _ _).trans (flt hc5).2.2.1) rfl ?_
    refine go_iloadN C (pc' := 5) d2_4 rfl rfl ?_
    by_cases hc6 : x = 0
    · refine go_ifNo C (pc' := 8) d2_5 ((if0 _ _).trans (teq hc6).2) rfl ?_
      refine go_bipush C (pc' := 10) d2_8 (z := (32 : Int32)) (by decide) rfl ?_
      refine go_goto C (pc' := 14) d2_10 (by decide) (by decide) ?_
      exact go_retI C d2_14 (by decide) (by decide) ⟨by rw [nlI, if_neg hc5, if_pos hc6], rfl⟩
    · refine go_ifYes C (pc' := 13) d2_5 ((if0 _ _).trans (feq hc6).2) (by decide) (by decide) ?_
      refine go_iconst C (pc' := 14) d2_13 (z := (0 : Int32)) (by decide) rfl ?_
      exact go_retI C d2_14 (by decide) (by decide) ⟨by rw [nlI, if_neg hc5, if_neg hc6], rfl⟩
set_option maxRecDepth 65536 in
set_option maxHeartbeats 4000000 in
theorem nlzL_met (l : Launch) (Z : State) (a0 : Array Value) (hw : ∀ d ∈ tables_1, d.before a0 Z = true) (n0 : Nat) (h : Heap) (O : Old Z n0 h) (d : Int64) (hz : ((d).toUInt64 >>> ((32 : Int32) &&& 0x3f).toInt64.toUInt64).toInt64.toInt32 = 0) :
    Met l Z n0 (⟨"java/lang/Long", "numberOfLeadingZeros", "(J)I"⟩ : MethodName) jdk_35_method_48_code 3 (some .int) [] ({ frames := 1, cells := 0, slots := 0, locals := 14 } : Room) #[(.long d)] h (fun v h' => v = some (.int ((32 : Int32) + nlI (d).toInt32)) ∧ h = h') := by
  refine met_of (Ls := #[(.val (.long d)), .second, .unset]) (by decide +kernel) (fun m => by first | (simp [entryFrame, mkF, argsToLocals, Value.category]; done) | rfl) O ?_
  intro p e s m below meth cd C
  refine go_lloadN C (pc' := 1) d3_0 rfl rfl ?_
  refine go_bipush C (pc' := 3) d3_1 (z := (32 : Int32)) (by decide) rfl ?_
  refine go_lushr C (pc' := 4) d3_3 rfl ?_
  refine go_l2i C (pc' := 5) d3_4 rfl ?_
  refine go_istoreN C (pc' := 6) d3_5 (Ls' := #[(.val (.long d)), .second, (.val (.int (((d).toUInt64 >>> ((32 : Int32) &&& 0x3f).toInt64.toUInt64).toInt64).toInt32))]) rfl rfl ?_
  refine go_ls (Ls' := #[(.val (.long d)), .second, (.val (.int (0 : Int32)))]) (by rw [hz]) ?_
  refine go_iloadN C (pc' := 7) d3_6 rfl rfl ?_
  refine go_ifNo C (pc' := 10) d3_7 (by decide) rfl ?_
  refine go_bipush C (pc' := 12) d3_10 (z := (32 : Int32)) (by decide) rfl ?_
  refine go_lloadN C (pc' := 13) d3_12 rfl rfl ?_
  refine go_l2i C (pc' := 14) d3_13 rfl ?_
  refine go_callS C (pc' := 17) (y' := (⟨"java/lang/Integer", "numberOfLeadingZeros", "(I)I"⟩ : MethodName)) (wd_48 hw) (wd_49 hw) (nlz_met l Z a0 hw _ _ O (d).toInt32) (wd_51 hw) (wd_50 hw) (by decide) (by decide) (W := 1) (Nat.le_of_ble_eq_true rfl) (by decide) (by decide) (by decide) rfl (argsL := [(.int (d).toInt32)]) (rest := [(.int (32 : Int32))]) pd_0 rfl rfl rfl d3_14 rfl ?_
  rintro _ _ ⟨rfl, rfl⟩
  refine go_st (st' := [(.int (nlI (d).toInt32)), (.int (32 : Int32))]) rfl ?_
  refine go_iadd C (pc' := 18) d3_17 rfl ?_
  refine go_goto C (pc' := 25) d3_18 (by decide) (by decide) ?_
  exact go_retI C d3_25 (by decide) (by decide) ⟨rfl, rfl⟩
theorem ne_i {a b : Nat} (h : a < b ∨ b < a) : a ≠ b := by omega
def Ord (n0 : Nat) (b pgs tb lo hi sh mk fi km pk : Nat) : Prop := n0 ≤ b ∧ b < pgs ∧ pgs < tb ∧ tb < lo ∧ lo < hi ∧ hi < sh ∧ sh < mk ∧ mk < fi ∧ fi < km ∧ km < pk
def Sto (Z : State) (h : Heap) (b pgs tb lo hi sh mk fi km pk : Addr) (kpgs ktb klo khi ksh kmk kfi kkm kpk : ClassId) (W ps sz : Int32) (vpgs vtb vlo vhi vsh vmk vfi vkm vpk : List Value) : Prop :=
  Exa Z h b "com/example/invariant/invariant/check/ConfigurationStore" ∧ Fld Z h b "com/example/invariant/invariant/check/ConfigurationStore" "low" "[I" (.ref lo) ∧ Fld Z h b "com/example/invariant/invariant/check/ConfigurationStore" "high" "[I" (.ref hi) ∧ Fld Z h b "com/example/invariant/invariant/check/ConfigurationStore" "firstInt" "[I" (.ref fi) ∧ Fld Z h b "com/example/invariant/invariant/check/ConfigurationStore" "words" "I" (.int W) ∧ Fld Z h b "com/example/invariant/invariant/check/ConfigurationStore" "shift" "[I" (.ref sh) ∧ Fld Z h b "com/example/invariant/invariant/check/ConfigurationStore" "mask" "[J" (.ref mk) ∧ Fld Z h b "com/example/invariant/invariant/check/ConfigurationStore" "keyMask" "[J" (.ref km) ∧ Fld Z h b "com/example/invariant/invariant/check/ConfigurationStore" "pageShift" "I" (.int ps) ∧ Fld Z h b "com/example/invariant/invariant/check/ConfigurationStore" "pages" "[[J" (.ref pgs) ∧ Fld Z h b "com/example/invariant/invariant/check/ConfigurationStore" "size" "I" (.int sz) ∧ Fld Z h b "com/example/invariant/invariant/check/ConfigurationStore" "table" "[J" (.ref tb) ∧ Fld Z h b "com/example/invariant/invariant/check/ConfigurationStore" "packed" "[J" (.ref pk) ∧ Ar Z h pgs (.array .long) kpgs vpgs ∧ Ar Z h tb .long ktb vtb ∧ Ar Z h lo .int klo vlo ∧ Ar Z h hi .int khi vhi ∧ Ar Z h sh .int ksh vsh ∧ Ar Z h mk .long kmk vmk ∧ Ar Z h fi .int kfi vfi ∧ Ar Z h km .long kkm vkm ∧ Ar Z h pk .long kpk vpk ∧ OvrA Z kpgs .long "[J"
def Stz (Z : State) (h : Heap) (b pgs lo hi sh mk fi km pk : Addr) (kpgs klo khi ksh kmk kfi kkm kpk : ClassId) (W ps sz : Int32) (vpgs vlo vhi vsh vmk vfi vkm vpk : List Value) : Prop :=
  Exa Z h b "com/example/invariant/invariant/check/ConfigurationStore" ∧ Fld Z h b "com/example/invariant/invariant/check/ConfigurationStore" "low" "[I" (.ref lo) ∧ Fld Z h b "com/example/invariant/invariant/check/ConfigurationStore" "high" "[I" (.ref hi) ∧ Fld Z h b "com/example/invariant/invariant/check/ConfigurationStore" "firstInt" "[I" (.ref fi) ∧ Fld Z h b "com/example/invariant/invariant/check/ConfigurationStore" "words" "I" (.int W) ∧ Fld Z h b "com/example/invariant/invariant/check/ConfigurationStore" "shift" "[I" (.ref sh) ∧ Fld Z h b "com/example/invariant/invariant/check/ConfigurationStore" "mask" "[J" (.ref mk) ∧ Fld Z h b "com/example/invariant/invariant/check/ConfigurationStore" "keyMask" "[J" (.ref km) ∧ Fld Z h b "com/example/invariant/invariant/check/ConfigurationStore" "pageShift" "I" (.int ps) ∧ Fld Z h b "com/example/invariant/invariant/check/ConfigurationStore" "pages" "[[J" (.ref pgs) ∧ Fld Z h b "com/example/invariant/invariant/check/ConfigurationStore" "size" "I" (.int sz) ∧ Fld Z h b "com/example/invariant/invariant/check/ConfigurationStore" "packed" "[J" (.ref pk) ∧ Ar Z h pgs (.array .long) kpgs vpgs ∧ Ar Z h lo .int klo vlo ∧ Ar Z h hi .int khi vhi ∧ Ar Z h sh .int ksh vsh ∧ Ar Z h mk .long kmk vmk ∧ Ar Z h fi .int kfi vfi ∧ Ar Z h km .long kkm vkm ∧ Ar Z h pk .long kpk vpk
set_option maxRecDepth 65536 in
set_option maxHeartbeats 4000000 in
theorem copyOf1_met (l : Launch) (Z : State) (a0 : Array Value) (hw : ∀ d ∈ tables_1, d.before a0 Z = true) (n0 : Nat) (h : Heap) (O : Old Z n0 h) {a : Nat} {k : ClassId} (Aa : Ar Z h a .int k [(.int (0 : Int32)), (.int (4 : Int32)), (.int (0 : Int32)), (.int (0 : Int32)), (.int (0 : Int32)), (.int (0 : Int32))]) :
    Met l Z n0 (⟨"java/util/Arrays", "copyOf", "([II)[I"⟩ : MethodName) jdk_65_method_123_code 3 (some (.array .int)) [] ({ frames := 1, cells := 1, slots := 2, locals := 40 } : Room) #[(.ref a), (.int (2 : Int32))] h (fun v h' => ∃ (c : Nat) (k' : ClassId), v = some (.ref c) ∧ a < c ∧ Keep h h' [] ∧ Ar Z h' c .int k' [(.int (0 : Int32)), (.int (4 : Int32))]) := by
  refine met_of (Ls := #[(.val (.ref a)), (.val (.int (2 : Int32))), .unset]) (by decide +kernel) (fun m => by first | (simp [entryFrame, mkF, argsToLocals, Value.category]; done) | rfl) O ?_
  intro p e s m below meth cd C
  refine go_iloadN C (pc' := 1) d4_0 rfl rfl ?_
  refine go_aloadN C (pc' := 2) d4_1 rfl rfl rfl ?_
  refine go_alen C (pc' := 3) Aa (z := (6 : Int32)) rfl d4_2 rfl ?_
  refine go_icmpYes C (pc' := 14) d4_3 (by decide) (by decide) (by decide) ?_
  refine go_iloadN C (pc' := 15) d4_14 rfl rfl ?_
  refine go_newPA C (pc' := 17) (len := 2) (ty := .int) rfl (wd_8 hw) d4_15 rfl (by decide) (by decide) (by decide) (by decide) (by decide) ?_
  intro h1 b1 k1 g1 n1 E1 A1
  have sz_b1 := Nat.le_trans (Nat.le_refl _) (Nat.le_of_eq g1.symm)
  have lt_b1 : @LT.lt Nat _ a b1 := by rw [g1]; exact Aa.lt
  refine go_old fun O1 => ?_
  refine go_astoreN C (pc' := 18) d4_17 rfl (Ls' := #[(.val (.ref a)), (.val (.int (2 : Int32))), (.val (.ref b1))]) rfl rfl ?_
  refine go_aloadN C (pc' := 19) d4_18 rfl rfl rfl ?_
  refine go_iconst C (pc' := 20) d4_19 (z := (0 : Int32)) (by decide) rfl ?_
  refine go_aloadN C (pc' := 21) d4_20 rfl rfl rfl ?_
  refine go_iconst C (pc' := 22) d4_21 (z := (0 : Int32)) (by decide) rfl ?_
  refine go_aloadN C (pc' := 23) d4_22 rfl rfl rfl ?_
  refine go_alen C (pc' := 24) (Aa.ext E1) (z := (6 : Int32)) rfl d4_23 rfl ?_
  refine go_iloadN C (pc' := 25) d4_24 rfl rfl ?_
  refine go_callS C (pc' := 28) (y' := (⟨"java/lang/Math", "min", "(II)I"⟩ : MethodName)) (wd_57 hw) (wd_1 hw) (min_met l Z a0 hw _ _ O1 (6 : Int32) (2 : Int32) (2 : Int32) (by decide)) (wd_3 hw) (wd_2 hw) (by decide) (by decide) (W := 4) (Nat.le_of_ble_eq_true rfl) (by decide) (by decide) (by decide) rfl (argsL := [(.int (6 : Int32)), (.int (2 : Int32))]) (rest := [(.int (0 : Int32)), (.ref b1), (.int (0 : Int32)), (.ref a)]) pd_1 rfl rfl rfl d4_25 rfl ?_
  rintro _ _ ⟨rfl, rfl⟩
  refine go_st (st' := [(.int (2 : Int32)), (.int (0 : Int32)), (.ref b1), (.int (0 : Int32)), (.ref a)]) rfl ?_
  refine go_acopy C (pc' := 31) (wd_58 hw) (wd_61 hw) (wd_59 hw) (wd_60 hw) (Aa.ext E1) A1 rfl (by simp [fits]) (by simp [fits, defaultValue]) (by simp) (by decide) (by decide) (i := 0) (by decide) (by decide) (j := 0) (by decide) (by decide) (q := 2) (by decide) (by simp) (by decide) (vs' := [(.int (0 : Int32)), (.int (4 : Int32))]) rfl rfl d4_28 rfl n1 (by decide) (W := 0) (Nat.le_of_ble_eq_true rfl) (by decide) ?_
  intro h2 K2 A2
  refine go_old fun O2 => ?_
  refine go_aloadN C (pc' := 32) d4_31 rfl rfl rfl ?_
  exact go_retA C rfl rfl d4_32 (by decide) (by decide) ⟨b1, _, rfl, by omega, (((Keep.refl _ []).ext E1).trans K2 (allS (Or.inr sz_b1) all0)), A2⟩
set_option maxRecDepth 65536 in
set_option maxHeartbeats 4000000 in
theorem init1_met (l : Launch) (Z : State) (a0 : Array Value) (hw : ∀ d ∈ tables_1, d.before a0 Z = true) (n0 : Nat) (h : Heap) (O : Old Z n0 h)  (b al ah : Nat) (kal kah : ClassId) (kd : Int32) (hk : kd = 0 ∨ kd = 1 ∨ kd = 2 ∨ kd = 3 ∨ kd = 4) (l0 u0 w0 l1 u1 w1 l2 u2 w2 l3 u3 w3 s1 s2 s3 : Int32) (m0 m1 m2 m3 : Int64) (hz0 : (((u0).toInt64 - (l0).toInt64).toUInt64 >>> ((32 : Int32) &&& 0x3f).toInt64.toUInt64).toInt64.toInt32 = 0) (hb0 : ((64 : Int32) - ((32 : Int32) + (nlI ((u0).toInt64 - (l0).toInt64).toInt32))) = w0) (hm0 : (((1 : Int64) <<< (w0 &&& 0x3f).toInt64) - (1 : Int64)) = m0) (hs1 : ((0 : Int32) + w0) = s1) (hc0 : ¬ (64 : Int32) < s1) (hz1 : (((u1).toInt64 - (l1).toInt64).toUInt64 >>> ((32 : Int32) &&& 0x3f).toInt64.toUInt64).toInt64.toInt32 = 0) (hb1 : ((64 : Int32) - ((32 : Int32) + (nlI ((u1).toInt64 - (l1).toInt64).toInt32))) = w1) (hm1 : (((1 : Int64) <<< (w1 &&& 0x3f).toInt64) - (1 : Int64)) = m1) (hs2 : (s1 + w1) = s2) (hc1 : ¬ (64 : Int32) < s2) (hz2 : (((u2).toInt64 - (l2).toInt64).toUInt64 >>> ((32 : Int32) &&& 0x3f).toInt64.toUInt64).toInt64.toInt32 = 0) (hb2 : ((64 : Int32) - ((32 : Int32) + (nlI ((u2).toInt64 - (l2).toInt64).toInt32))) = w2) (hm2 : (((1 : Int64) <<< (w2 &&& 0x3f).toInt64) - (1 : Int64)) = m2) (hs3 : (s2 + w2) = s3) (hc2 : ¬ (64 : Int32) < s3) (hz3 : (((u3).toInt64 - (l3).toInt64).toUInt64 >>> ((32 : Int32) &&& 0x3f).toInt64.toUInt64).toInt64.toInt32 = 0) (hb3 : ((64 : Int32) - ((32 : Int32) + (nlI ((u3).toInt64 - (l3).toInt64).toInt32))) = w3) (hm3 : (((1 : Int64) <<< (w3 &&& 0x3f).toInt64) - (1 : Int64)) = m3) (hc3 : ¬ (64 : Int32) < (s3 + w3)) (Aal : Ar Z h al .int kal [(.int l0), (.int l1), (.int l2), (.int l3)]) (Aah : Ar Z h ah .int kah [(.int u0), (.int u1), (.int u2), (.int u3)]) (Eal : Exa Z h al "[I") (Eah : Exa Z h ah "[I") (E_b : Exa Z h b "com/example/invariant/invariant/check/ConfigurationStore") (F_b_low : Fld Z h b "com/example/invariant/invariant/check/ConfigurationStore" "low" "[I" .null) (F_b_high : Fld Z h b "com/example/invariant/invariant/check/ConfigurationStore" "high" "[I" .null) (F_b_firstInt : Fld Z h b "com/example/invariant/invariant/check/ConfigurationStore" "firstInt" "[I" .null) (F_b_words : Fld Z h b "com/example/invariant/invariant/check/ConfigurationStore" "words" "I" (.int (0 : Int32))) (F_b_shift : Fld Z h b "com/example/invariant/invariant/check/ConfigurationStore" "shift" "[I" .null) (F_b_mask : Fld Z h b "com/example/invariant/invariant/check/ConfigurationStore" "mask" "[J" .null) (F_b_keyMask : Fld Z h b "com/example/invariant/invariant/check/ConfigurationStore" "keyMask" "[J" .null) (F_b_pageShift : Fld Z h b "com/example/invariant/invariant/check/ConfigurationStore" "pageShift" "I" (.int (0 : Int32))) (F_b_pages : Fld Z h b "com/example/invariant/invariant/check/ConfigurationStore" "pages" "[[J" .null) (F_b_size : Fld Z h b "com/example/invariant/invariant/check/ConfigurationStore" "size" "I" (.int (0 : Int32))) (F_b_table : Fld Z h b "com/example/invariant/invariant/check/ConfigurationStore" "table" "[J" .null) (F_b_packed : Fld Z h b "com/example/invariant/invariant/check/ConfigurationStore" "packed" "[J" .null) (nb : n0 ≤ b) (q1 : al < b) (q2 : ah < b) :
    Met l Z n0 (⟨"com/example/invariant/invariant/check/ConfigurationStore", "<init>", "([I[II)V"⟩ : MethodName) prog_52_method_2_code 10 none [] ({ frames := 2, cells := 10, slots := 155, locals := 55 } : Room) #[(.ref b), (.ref al), (.ref ah), (.int kd)] h (fun v h' => v = none ∧ ∃ (pgs tb lo hi sh mk fi km pk : Nat) (kpgs ktb klo khi ksh kmk kfi kkm kpk : ClassId) (KM0 : Int64), Sto Z h' b pgs tb lo hi sh mk fi km pk kpgs ktb klo khi ksh kmk kfi kkm kpk (1 : Int32) (20 : Int32) (0 : Int32) [.null] (List.replicate 128 (.long (0 : Int64))) [(.int l0), (.int l1), (.int l2), (.int l3)] [(.int u0), (.int u1), (.int u2), (.int u3)] [(.int (0 : Int32)), (.int s1), (.int s2), (.int s3)] [(.long m0), (.long m1), (.long m2), (.long m3)] [(.int (0 : Int32)), (.int (4 : Int32))] [(.long KM0)] [(.long (0 : Int64))] ∧ Ord n0 b pgs tb lo hi sh mk fi km pk ∧ Keep h h' [b]) := by
  refine met_of (Ls := #[(.val (.ref b)), (.val (.ref al)), (.val (.ref ah)), (.val (.int kd)), .unset, .unset, .unset, .unset, .unset, .unset]) (by decide +kernel) (fun m => by first | (simp [entryFrame, mkF, argsToLocals, Value.category]; done) | rfl) O ?_
  intro p e s m below meth cd C
  refine go_aloadN C (pc' := 1) d5_0 rfl rfl rfl ?_
  refine go_initO C (pc' := 4) (wd_17 hw) (wd_18 hw) (wd_19 hw) rfl d5_1 rfl (by decide) (by decide) ?_
  refine go_aloadN C (pc' := 5) d5_4 rfl rfl rfl ?_
  refine go_iconst C (pc' := 6) d5_5 (z := (1 : Int32)) (by decide) rfl ?_
  refine go_newAA C (pc' := 9) (len := 1) (ty := .long) (ad := "[[J") rfl rfl (wd_20 hw) (wd_21 hw) d5_6 rfl (by decide) (by decide) (by decide) (by decide) (by decide) ?_
  intro h1 b1 k1 g1 n1 E1 A1 V1 X1
  have sz_b1 := Nat.le_trans (Nat.le_refl _) (Nat.le_of_eq g1.symm)
  have lt_b1 : @LT.lt Nat _ b b1 := by rw [g1]; exact E_b.lt
  refine go_old fun O1 => ?_
  refine go_putF C (pc' := 12) (host := "") (Or.inl (wd_22 hw)) Via.refl (F_b_pages.ext E1) (E_b.ext E1) (Or.inl (wd_23 hw)) (wd_12 hw) (ty := (.array (.array .long))) (by decide) rfl rfl d5_9 rfl nb ?_
  intro h2 W2 F2
  refine go_old fun O2 => ?_
  refine go_aloadN C (pc' := 13) d5_12 rfl rfl rfl ?_
  refine go_sipush C (pc' := 16) d5_13 (z := (128 : Int32)) (by decide) rfl ?_
  refine go_newPA C (pc' := 18) (len := 128) (ty := .long) rfl (wd_24 hw) d5_16 rfl (by decide) (by decide) (by decide) (by decide) (by decide) ?_
  intro h3 b3 k3 g3 n3 E3 A3
  have sz_b3 := Nat.le_trans (Nat.le_trans (Nat.le_trans (Nat.le_refl _) E1.1) (Nat.le_of_eq W2.size.symm)) (Nat.le_of_eq g3.symm)
  have lt_b3 : @LT.lt Nat _ b1 b3 := by rw [g3]; exact (A1.other W2 (ne_i (by omega))).lt
  refine go_old fun O3 => ?_
  refine go_putF C (pc' := 21) (host := "") (Or.inl (wd_25 hw)) Via.refl (((F_b_table.ext E1).other W2 (Or.inr (sn_0 hw))).ext E3) (((E_b.ext E1).wr W2).ext E3) (Or.inl (wd_26 hw)) (wd_12 hw) (ty := (.array .long)) (by decide) rfl rfl d5_18 rfl nb ?_
  intro h4 W4 F4
  refine go_old fun O4 => ?_
  refine go_aloadN C (pc' := 22) d5_21 rfl rfl rfl ?_
  refine go_aloadN C (pc' := 23) d5_22 rfl rfl rfl ?_
  have fx6 := ((((Aal.ext E1).other W2 (ne_i (by omega))).ext E3).other W4 (ne_i (by omega)))
  refine go_clone C (pc' := 26) (wd_27 hw) (wd_28 hw) (wd_32 hw) (wd_30 hw) (wd_31 hw) (wd_33 hw) fx6 ((((Eal.ext E1).wr W2).ext E3).wr W4) (by simp [fits]) rfl d5_23 rfl (by decide) (W := 1) (Nat.le_of_ble_eq_true rfl) (by decide) (len := 4) rfl (by decide) (by decide) ?_
  intro h5 b5 g5 n5 E5 A5 X5
  have sz_b5 := Nat.le_trans (Nat.le_trans (Nat.le_trans (Nat.le_trans (Nat.le_trans (Nat.le_refl _) E1.1) (Nat.le_of_eq W2.size.symm)) E3.1) (Nat.le_of_eq W4.size.symm)) (Nat.le_of_eq g5.symm)
  have lt_b5 : @LT.lt Nat _ b3 b5 := by rw [g5]; exact (A3.other W4 (ne_i (by omega))).lt
  refine go_old fun O5 => ?_
  refine go_castY C (pc' := 29) (wd_34 hw) (Ins.self X5) d5_26 rfl ?_
  have fx7 := (((((F_b_low.ext E1).other W2 (Or.inr (sn_1 hw))).ext E3).other W4 (Or.inr (sn_2 hw))).ext E5)
  refine go_putF C (pc' := 32) (host := "") (Or.inl (wd_36 hw)) Via.refl fx7 (((((E_b.ext E1).wr W2).ext E3).wr W4).ext E5) (Or.inr ⟨(wd_37 hw), rfl, rfl⟩) (wd_12 hw) (ty := (.array .int)) (by decide) rfl rfl d5_29 rfl nb ?_
  intro h8 W8 F8
  refine go_old fun O8 => ?_
  refine go_aloadN C (pc' := 33) d5_32 rfl rfl rfl ?_
  refine go_aloadN C (pc' := 34) d5_33 rfl rfl rfl ?_
  have fx10 := ((((((Aah.ext E1).other W2 (ne_i (by omega))).ext E3).other W4 (ne_i (by omega))).ext E5).other W8 (ne_i (by omega)))
  refine go_clone C (pc' := 37) (wd_27 hw) (wd_28 hw) (wd_32 hw) (wd_30 hw) (wd_31 hw) (wd_33 hw) fx10 ((((((Eah.ext E1).wr W2).ext E3).wr W4).ext E5).wr W8) (by simp [fits]) rfl d5_34 rfl (by decide) (W := 1) (Nat.le_of_ble_eq_true rfl) (by decide) (len := 4) rfl (by decide) (by decide) ?_
  intro h9 b9 g9 n9 E9 A9 X9
  have sz_b9 := Nat.le_trans (Nat.le_trans (Nat.le_trans (Nat.le_trans (Nat.le_trans (Nat.le_trans (Nat.le_trans (Nat.le_refl _) E1.1) (Nat.le_of_eq W2.size.symm)) E3.1) (Nat.le_of_eq W4.size.symm)) E5.1) (Nat.le_of_eq W8.size.symm)) (Nat.le_of_eq g9.symm)
  have lt_b9 : @LT.lt Nat _ b5 b9 := by rw [g9]; exact (A5.other W8 (ne_i (by omega))).lt
  refine go_old fun O9 => ?_
  refine go_castY C (pc' := 40) (wd_34 hw) (Ins.self X9) d5_37 rfl ?_
  have fx11 := (((((((F_b_high.ext E1).other W2 (Or.inr (sn_3 hw))).ext E3).other W4 (Or.inr (sn_4 hw))).ext E5).other W8 (Or.inr (sn_5 hw))).ext E9)
  refine go_putF C (pc' := 43) (host := "") (Or.inl (wd_38 hw)) Via.refl fx11 (((((((E_b.ext E1).wr W2).ext E3).wr W4).ext E5).wr W8).ext E9) (Or.inr ⟨(wd_39 hw), rfl, rfl⟩) (wd_12 hw) (ty := (.array .int)) (by decide) rfl rfl d5_40 rfl nb ?_
  intro h12 W12 F12
  refine go_old fun O12 => ?_
  refine go_aloadN C (pc' := 44) d5_43 rfl rfl rfl ?_
  have fx13 := ((((fx6.ext E5).other W8 (ne_i (by omega))).ext E9).other W12 (ne_i (by omega)))
  refine go_alen C (pc' := 45) fx13 (z := (4 : Int32)) rfl d5_44 rfl ?_
  refine go_istore C (pc' := 47) d5_45 (Ls' := #[(.val (.ref b)), (.val (.ref al)), (.val (.ref ah)), (.val (.int kd)), (.val (.int (4 : Int32))), .unset, .unset, .unset, .unset, .unset]) rfl rfl ?_
  refine go_aloadN C (pc' := 48) d5_47 rfl rfl rfl ?_
  refine go_iload C (pc' := 50) d5_48 rfl rfl ?_
  refine go_newPA C (pc' := 52) (len := 4) (ty := .int) rfl (wd_8 hw) d5_50 rfl (by decide) (by decide) (by decide) (by decide) (by decide) ?_
  intro h14 b14 k14 g14 n14 E14 A14
  have sz_b14 := Nat.le_trans (Nat.le_trans (Nat.le_trans (Nat.le_trans (Nat.le_trans (Nat.le_trans (Nat.le_trans (Nat.le_trans (Nat.le_trans (Nat.le_refl _) E1.1) (Nat.le_of_eq W2.size.symm)) E3.1) (Nat.le_of_eq W4.size.symm)) E5.1) (Nat.le_of_eq W8.size.symm)) E9.1) (Nat.le_of_eq W12.size.symm)) (Nat.le_of_eq g14.symm)
  have lt_b14 : @LT.lt Nat _ b9 b14 := by rw [g14]; exact (A9.other W12 (ne_i (by omega))).lt
  refine go_old fun O14 => ?_
  have fx15 := (((((((((F_b_shift.ext E1).other W2 (Or.inr (sn_6 hw))).ext E3).other W4 (Or.inr (sn_7 hw))).ext E5).other W8 (Or.inr (sn_8 hw))).ext E9).other W12 (Or.inr (sn_9 hw))).ext E14)
  have fx16 := (((((((((E_b.ext E1).wr W2).ext E3).wr W4).ext E5).wr W8).ext E9).wr W12).ext E14)
  refine go_putF C (pc' := 55) (host := "") (Or.inl (wd_40 hw)) Via.refl fx15 fx16 (Or.inr ⟨(wd_41 hw), rfl, rfl⟩) (wd_12 hw) (ty := (.array .int)) (by decide) rfl rfl d5_52 rfl nb ?_
  intro h17 W17 F17
  refine go_old fun O17 => ?_
  refine go_aloadN C (pc' := 56) d5_55 rfl rfl rfl ?_
  refine go_iload C (pc' := 58) d5_56 rfl rfl ?_
  refine go_newPA C (pc' := 60) (len := 4) (ty := .long) rfl (wd_24 hw) d5_58 rfl (by decide) (by decide) (by decide) (by decide) (by decide) ?_
  intro h18 b18 k18 g18 n18 E18 A18
  have sz_b18 := Nat.le_trans (Nat.le_trans (Nat.le_trans (Nat.le_trans (Nat.le_trans (Nat.le_trans (Nat.le_trans (Nat.le_trans (Nat.le_trans (Nat.le_trans (Nat.le_trans (Nat.le_refl _) E1.1) (Nat.le_of_eq W2.size.symm)) E3.1) (Nat.le_of_eq W4.size.symm)) E5.1) (Nat.le_of_eq W8.size.symm)) E9.1) (Nat.le_of_eq W12.size.symm)) E14.1) (Nat.le_of_eq W17.size.symm)) (Nat.le_of_eq g18.symm)
  have lt_b18 : @LT.lt Nat _ b14 b18 := by rw [g18]; exact (A14.other W17 (ne_i (by omega))).lt
  refine go_old fun O18 => ?_
  have fx19 := (((((((((((F_b_mask.ext E1).other W2 (Or.inr (sn_10 hw))).ext E3).other W4 (Or.inr (sn_11 hw))).ext E5).other W8 (Or.inr (sn_12 hw))).ext E9).other W12 (Or.inr (sn_13 hw))).ext E14).other W17 (Or.inr (sn_14 hw))).ext E18)
  refine go_putF C (pc' := 63) (host := "") (Or.inl (wd_42 hw)) Via.refl fx19 ((fx16.wr W17).ext E18) (Or.inr ⟨(wd_43 hw), rfl, rfl⟩) (wd_12 hw) (ty := (.array .long)) (by decide) rfl rfl d5_60 rfl nb ?_
  intro h20 W20 F20
  refine go_old fun O20 => ?_
  refine go_iload C (pc' := 65) d5_63 rfl rfl ?_
  refine go_iconst C (pc' := 66) d5_65 (z := (2 : Int32)) (by decide) rfl ?_
  refine go_iadd C (pc' := 67) d5_66 rfl ?_
  refine go_st (st' := [(.int (6 : Int32))]) (by rw [show ((4 : Int32) + (2 : Int32)) = (6 : Int32) from by decide]) ?_
  refine go_newPA C (pc' := 69) (len := 6) (ty := .int) rfl (wd_8 hw) d5_67 rfl (by decide) (by decide) (by decide) (by decide) (by decide) ?_
  intro h21 b21 k21 g21 n21 E21 A21
  have sz_b21 := Nat.le_trans (Nat.le_trans (Nat.le_trans (Nat.le_trans (Nat.le_trans (Nat.le_trans (Nat.le_trans (Nat.le_trans (Nat.le_trans (Nat.le_trans (Nat.le_trans (Nat.le_trans (Nat.le_trans (Nat.le_refl _) E1.1) (Nat.le_of_eq W2.size.symm)) E3.1) (Nat.le_of_eq W4.size.symm)) E5.1) (Nat.le_of_eq W8.size.symm)) E9.1) (Nat.le_of_eq W12.size.symm)) E14.1) (Nat.le_of_eq W17.size.symm)) E18.1) (Nat.le_of_eq W20.size.symm)) (Nat.le_of_eq g21.symm)
  have lt_b21 : @LT.lt Nat _ b18 b21 := by rw [g21]; exact (A18.other W20 (ne_i (by omega))).lt
  refine go_old fun O21 => ?_
  refine go_astore C (pc' := 71) d5_69 rfl (Ls' := #[(.val (.ref b)), (.val (.ref al)), (.val (.ref ah)), (.val (.int kd)), (.val (.int (4 : Int32))), (.val (.ref b21)), .unset, .unset, .unset, .unset]) rfl rfl ?_
  refine go_iconst C (pc' := 72) d5_71 (z := (1 : Int32)) (by decide) rfl ?_
  refine go_istore C (pc' := 74) d5_72 (Ls' := #[(.val (.ref b)), (.val (.ref al)), (.val (.ref ah)), (.val (.int kd)), (.val (.int (4 : Int32))), (.val (.ref b21)), (.val (.int (1 : Int32))), .unset, .unset, .unset]) rfl rfl ?_
  refine go_iconst C (pc' := 75) d5_74 (z := (0 : Int32)) (by decide) rfl ?_
  refine go_istore C (pc' := 77) d5_75 (Ls' := #[(.val (.ref b)), (.val (.ref al)), (.val (.ref ah)), (.val (.int kd)), (.val (.int (4 : Int32))), (.val (.ref b21)), (.val (.int (1 : Int32))), (.val (.int (0 : Int32))), .unset, .unset]) rfl rfl ?_
  refine go_iconst C (pc' := 78) d5_77 (z := (0 : Int32)) (by decide) rfl ?_
  refine go_istore C (pc' := 80) d5_78 (Ls' := #[(.val (.ref b)), (.val (.ref al)), (.val (.ref ah)), (.val (.int kd)), (.val (.int (4 : Int32))), (.val (.ref b21)), (.val (.int (1 : Int32))), (.val (.int (0 : Int32))), (.val (.int (0 : Int32))), .unset]) rfl rfl ?_
  refine go_iload C (pc' := 82) d5_80 rfl rfl ?_
  refine go_iload C (pc' := 84) d5_82 rfl rfl ?_
  refine go_icmpNo C (pc' := 87) d5_84 (by decide) rfl ?_
  refine go_bipush C (pc' := 89) d5_87 (z := (64 : Int32)) (by decide) rfl ?_
  refine go_aloadN C (pc' := 90) d5_89 rfl rfl rfl ?_
  refine go_iload C (pc' := 92) d5_90 rfl rfl ?_
  have fx22 := (((((((fx10.ext E9).other W12 (ne_i (by omega))).ext E14).other W17 (ne_i (by omega))).ext E18).other W20 (ne_i (by omega))).ext E21)
  refine go_iaget C (pc' := 93) fx22 (by decide) (i := 0) (by decide) rfl d5_92 rfl ?_
  refine go_i2l C (pc' := 94) d5_93 rfl ?_
  refine go_aloadN C (pc' := 95) d5_94 rfl rfl rfl ?_
  refine go_iload C (pc' := 97) d5_95 rfl rfl ?_
  have fx23 := (((((fx13.ext E14).other W17 (ne_i (by omega))).ext E18).other W20 (ne_i (by omega))).ext E21)
  refine go_iaget C (pc' := 98) fx23 (by decide) (i := 0) (by decide) rfl d5_97 rfl ?_
  refine go_i2l C (pc' := 99) d5_98 rfl ?_
  refine go_lsub C (pc' := 100) d5_99 rfl ?_
  refine go_callS C (pc' := 103) (y' := (⟨"java/lang/Long", "numberOfLeadingZeros", "(J)I"⟩ : MethodName)) (wd_44 hw) (wd_45 hw) (nlzL_met l Z a0 hw _ _ O21 ((u0).toInt64 - (l0).toInt64) hz0) (wd_47 hw) (wd_46 hw) (by decide) (by decide) (W := 1) (Nat.le_of_ble_eq_true rfl) (by decide) (by decide) (by decide) rfl (argsL := [(.long ((u0).toInt64 - (l0).toInt64))]) (rest := [(.int (64 : Int32))]) pd_2 rfl rfl rfl d5_100 rfl ?_
  rintro _ _ ⟨rfl, rfl⟩
  refine go_st (st' := [(.int ((32 : Int32) + (nlI ((u0).toInt64 - (l0).toInt64).toInt32))), (.int (64 : Int32))]) rfl ?_
  refine go_isub C (pc' := 104) d5_103 rfl ?_
  refine go_st (st' := [(.int w0)]) (by rw [hb0]) ?_
  refine go_istore C (pc' := 106) d5_104 (Ls' := #[(.val (.ref b)), (.val (.ref al)), (.val (.ref ah)), (.val (.int kd)), (.val (.int (4 : Int32))), (.val (.ref b21)), (.val (.int (1 : Int32))), (.val (.int (0 : Int32))), (.val (.int (0 : Int32))), (.val (.int w0))]) rfl rfl ?_
  refine go_iload C (pc' := 108) d5_106 rfl rfl ?_
  refine go_iload C (pc' := 110) d5_108 rfl rfl ?_
  refine go_iadd C (pc' := 111) d5_110 rfl ?_
  refine go_st (st' := [(.int s1)]) (by rw [hs1]) ?_
  refine go_bipush C (pc' := 113) d5_111 (z := (64 : Int32)) (by decide) rfl ?_
  refine go_icmpYes C (pc' := 129) d5_113 (flt hc0).2.2.2 (by decide) (by decide) ?_
  refine go_aloadN C (pc' := 130) d5_129 rfl rfl rfl ?_
  refine gF C (pc' := 133) (wd_40 hw) (((F17.ext E18).other W20 (Or.inr (sn_14 hw).symm)).ext E21) d5_130 rfl ?_
  refine go_iload C (pc' := 135) d5_133 rfl rfl ?_
  refine go_iload C (pc' := 137) d5_135 rfl rfl ?_
  have fx25 := ((((A14.other W17 (ne_i (by omega))).ext E18).other W20 (ne_i (by omega))).ext E21)
  refine go_iaset C (pc' := 138) fx25 (by decide) (i := 0) (by decide) (by simp) (vs' := [(.int (0 : Int32)), (.int (0 : Int32)), (.int (0 : Int32)), (.int (0 : Int32))]) rfl d5_137 rfl n14 ?_
  intro h24 W24 A24
  refine go_old fun O24 => ?_
  refine go_aloadN C (pc' := 139) d5_138 rfl rfl rfl ?_
  refine gF C (pc' := 142) (wd_42 hw) ((F20.ext E21).other W24 (Or.inl (ne_i (by omega)))) d5_139 rfl ?_
  refine go_iload C (pc' := 144) d5_142 rfl rfl ?_
  refine go_lconst C (pc' := 145) d5_144 (z := (1 : Int64)) (by decide) rfl ?_
  refine go_iload C (pc' := 147) d5_145 rfl rfl ?_
  refine go_lshl C (pc' := 148) d5_147 rfl ?_
  refine go_lconst C (pc' := 149) d5_148 (z := (1 : Int64)) (by decide) rfl ?_
  refine go_lsub C (pc' := 150) d5_149 rfl ?_
  refine go_st (st' := [(.long m0), (.int (0 : Int32)), (.ref b18)]) (by rw [hm0]) ?_
  have fx27 := (((A18.other W20 (ne_i (by omega))).ext E21).other W24 (ne_i (by omega)))
  refine go_laset C (pc' := 151) fx27 (by decide) (i := 0) (by decide) (by simp) (vs' := [(.long m0), (.long (0 : Int64)), (.long (0 : Int64)), (.long (0 : Int64))]) rfl d5_150 rfl n18 ?_
  intro h26 W26 A26
  refine go_old fun O26 => ?_
  refine go_iload C (pc' := 153) d5_151 rfl rfl ?_
  refine go_iload C (pc' := 155) d5_153 rfl rfl ?_
  refine go_iadd C (pc' := 156) d5_155 rfl ?_
  refine go_st (st' := [(.int s1)]) (by rw [hs1]) ?_
  refine go_istore C (pc' := 158) d5_156 (Ls' := #[(.val (.ref b)), (.val (.ref al)), (.val (.ref ah)), (.val (.int kd)), (.val (.int (4 : Int32))), (.val (.ref b21)), (.val (.int (1 : Int32))), (.val (.int s1)), (.val (.int (0 : Int32))), (.val (.int w0))]) rfl rfl ?_
  refine gI C (pc' := 161) d5_158 rfl (z := (1 : Int32)) (by decide) (Ls' := #[(.val (.ref b)), (.val (.ref al)), (.val (.ref ah)), (.val (.int kd)), (.val (.int (4 : Int32))), (.val (.ref b21)), (.val (.int (1 : Int32))), (.val (.int s1)), (.val (.int (1 : Int32))), (.val (.int w0))]) rfl rfl ?_
  refine go_goto C (pc' := 80) d5_161 (by decide) (by decide) ?_
  refine go_iload C (pc' := 82) d5_80 rfl rfl ?_
  refine go_iload C (pc' := 84) d5_82 rfl rfl ?_
  refine go_icmpNo C (pc' := 87) d5_84 (by decide) rfl ?_
  refine go_bipush C (pc' := 89) d5_87 (z := (64 : Int32)) (by decide) rfl ?_
  refine go_aloadN C (pc' := 90) d5_89 rfl rfl rfl ?_
  refine go_iload C (pc' := 92) d5_90 rfl rfl ?_
  refine go_iaget C (pc' := 93) ((fx22.other W24 (ne_i (by omega))).other W26 (ne_i (by omega))) (by decide) (i := 1) (by decide) rfl d5_92 rfl ?_
  refine go_i2l C (pc' := 94) d5_93 rfl ?_
  refine go_aloadN C (pc' := 95) d5_94 rfl rfl rfl ?_
  refine go_iload C (pc' := 97) d5_95 rfl rfl ?_
  refine go_iaget C (pc' := 98) ((fx23.other W24 (ne_i (by omega))).other W26 (ne_i (by omega))) (by decide) (i := 1) (by decide) rfl d5_97 rfl ?_
  refine go_i2l C (pc' := 99) d5_98 rfl ?_
  refine go_lsub C (pc' := 100) d5_99 rfl ?_
  refine go_callS C (pc' := 103) (y' := (⟨"java/lang/Long", "numberOfLeadingZeros", "(J)I"⟩ : MethodName)) (wd_44 hw) (wd_45 hw) (nlzL_met l Z a0 hw _ _ O26 ((u1).toInt64 - (l1).toInt64) hz1) (wd_47 hw) (wd_46 hw) (by decide) (by decide) (W := 1) (Nat.le_of_ble_eq_true rfl) (by decide) (by decide) (by decide) rfl (argsL := [(.long ((u1).toInt64 - (l1).toInt64))]) (rest := [(.int (64 : Int32))]) pd_2 rfl rfl rfl d5_100 rfl ?_
  rintro _ _ ⟨rfl, rfl⟩
  refine go_st (st' := [(.int ((32 : Int32) + (nlI ((u1).toInt64 - (l1).toInt64).toInt32))), (.int (64 : Int32))]) rfl ?_
  refine go_isub C (pc' := 104) d5_103 rfl ?_
  refine go_st (st' := [(.int w1)]) (by rw [hb1]) ?_
  refine go_istore C (pc' := 106) d5_104 (Ls' := #[(.val (.ref b)), (.val (.ref al)), (.val (.ref ah)), (.val (.int kd)), (.val (.int (4 : Int32))), (.val (.ref b21)), (.val (.int (1 : Int32))), (.val (.int s1)), (.val (.int (1 : Int32))), (.val (.int w1))]) rfl rfl ?_
  refine go_iload C (pc' := 108) d5_106 rfl rfl ?_
  refine go_iload C (pc' := 110) d5_108 rfl rfl ?_
  refine go_iadd C (pc' := 111) d5_110 rfl ?_
  refine go_st (st' := [(.int s2)]) (by rw [hs2]) ?_
  refine go_bipush C (pc' := 113) d5_111 (z := (64 : Int32)) (by decide) rfl ?_
  refine go_icmpYes C (pc' := 129) d5_113 (flt hc1).2.2.2 (by decide) (by decide) ?_
  refine go_aloadN C (pc' := 130) d5_129 rfl rfl rfl ?_
  have fx28 := (((((F17.ext E18).other W20 (Or.inr (sn_14 hw).symm)).ext E21).other W24 (Or.inl (ne_i (by omega)))).other W26 (Or.inl (ne_i (by omega))))
  refine gF C (pc' := 133) (wd_40 hw) fx28 d5_130 rfl ?_
  refine go_iload C (pc' := 135) d5_133 rfl rfl ?_
  refine go_iload C (pc' := 137) d5_135 rfl rfl ?_
  refine go_iaset C (pc' := 138) (A24.other W26 (ne_i (by omega))) (by decide) (i := 1) (by decide) (by simp) (vs' := [(.int (0 : Int32)), (.int s1), (.int (0 : Int32)), (.int (0 : Int32))]) rfl d5_137 rfl n14 ?_
  intro h29 W29 A29
  refine go_old fun O29 => ?_
  refine go_aloadN C (pc' := 139) d5_138 rfl rfl rfl ?_
  have fx30 := ((((F20.ext E21).other W24 (Or.inl (ne_i (by omega)))).other W26 (Or.inl (ne_i (by omega)))).other W29 (Or.inl (ne_i (by omega))))
  refine gF C (pc' := 142) (wd_42 hw) fx30 d5_139 rfl ?_
  refine go_iload C (pc' := 144) d5_142 rfl rfl ?_
  refine go_lconst C (pc' := 145) d5_144 (z := (1 : Int64)) (by decide) rfl ?_
  refine go_iload C (pc' := 147) d5_145 rfl rfl ?_
  refine go_lshl C (pc' := 148) d5_147 rfl ?_
  refine go_lconst C (pc' := 149) d5_148 (z := (1 : Int64)) (by decide) rfl ?_
  refine go_lsub C (pc' := 150) d5_149 rfl ?_
  refine go_st (st' := [(.long m1), (.int (1 : Int32)), (.ref b18)]) (by rw [hm1]) ?_
  refine go_laset C (pc' := 151) (A26.other W29 (ne_i (by omega))) (by decide) (i := 1) (by decide) (by simp) (vs' := [(.long m0), (.long m1), (.long (0 : Int64)), (.long (0 : Int64))]) rfl d5_150 rfl n18 ?_
  intro h31 W31 A31
  refine go_old fun O31 => ?_
  refine go_iload C (pc' := 153) d5_151 rfl rfl ?_
  refine go_iload C (pc' := 155) d5_153 rfl rfl ?_
  refine go_iadd C (pc' := 156) d5_155 rfl ?_
  refine go_st (st' := [(.int s2)]) (by rw [hs2]) ?_
  refine go_istore C (pc' := 158) d5_156 (Ls' := #[(.val (.ref b)), (.val (.ref al)), (.val (.ref ah)), (.val (.int kd)), (.val (.int (4 : Int32))), (.val (.ref b21)), (.val (.int (1 : Int32))), (.val (.int s2)), (.val (.int (1 : Int32))), (.val (.int w1))]) rfl rfl ?_
  refine gI C (pc' := 161) d5_158 rfl (z := (2 : Int32)) (by decide) (Ls' := #[(.val (.ref b)), (.val (.ref al)), (.val (.ref ah)), (.val (.int kd)), (.val (.int (4 : Int32))), (.val (.ref b21)), (.val (.int (1 : Int32))), (.val (.int s2)), (.val (.int (2 : Int32))), (.val (.int w1))]) rfl rfl ?_
  refine go_goto C (pc' := 80) d5_161 (by decide) (by decide) ?_
  refine go_iload C (pc' := 82) d5_80 rfl rfl ?_
  refine go_iload C (pc' := 84) d5_82 rfl rfl ?_
  refine go_icmpNo C (pc' := 87) d5_84 (by decide) rfl ?_
  refine go_bipush C (pc' := 89) d5_87 (z := (64 : Int32)) (by decide) rfl ?_
  refine go_aloadN C (pc' := 90) d5_89 rfl rfl rfl ?_
  refine go_iload C (pc' := 92) d5_90 rfl rfl ?_
  have fx32 := ((((fx22.other W24 (ne_i (by omega))).other W26 (ne_i (by omega))).other W29 (ne_i (by omega))).other W31 (ne_i (by omega)))
  refine go_iaget C (pc' := 93) fx32 (by decide) (i := 2) (by decide) rfl d5_92 rfl ?_
  refine go_i2l C (pc' := 94) d5_93 rfl ?_
  refine go_aloadN C (pc' := 95) d5_94 rfl rfl rfl ?_
  refine go_iload C (pc' := 97) d5_95 rfl rfl ?_
  have fx33 := ((((fx23.other W24 (ne_i (by omega))).other W26 (ne_i (by omega))).other W29 (ne_i (by omega))).other W31 (ne_i (by omega)))
  refine go_iaget C (pc' := 98) fx33 (by decide) (i := 2) (by decide) rfl d5_97 rfl ?_
  refine go_i2l C (pc' := 99) d5_98 rfl ?_
  refine go_lsub C (pc' := 100) d5_99 rfl ?_
  refine go_callS C (pc' := 103) (y' := (⟨"java/lang/Long", "numberOfLeadingZeros", "(J)I"⟩ : MethodName)) (wd_44 hw) (wd_45 hw) (nlzL_met l Z a0 hw _ _ O31 ((u2).toInt64 - (l2).toInt64) hz2) (wd_47 hw) (wd_46 hw) (by decide) (by decide) (W := 1) (Nat.le_of_ble_eq_true rfl) (by decide) (by decide) (by decide) rfl (argsL := [(.long ((u2).toInt64 - (l2).toInt64))]) (rest := [(.int (64 : Int32))]) pd_2 rfl rfl rfl d5_100 rfl ?_
  rintro _ _ ⟨rfl, rfl⟩
  refine go_st (st' := [(.int ((32 : Int32) + (nlI ((u2).toInt64 - (l2).toInt64).toInt32))), (.int (64 : Int32))]) rfl ?_
  refine go_isub C (pc' := 104) d5_103 rfl ?_
  refine go_st (st' := [(.int w2)]) (by rw [hb2]) ?_
  refine go_istore C (pc' := 106) d5_104 (Ls' := #[(.val (.ref b)), (.val (.ref al)), (.val (.ref ah)), (.val (.int kd)), (.val (.int (4 : Int32))), (.val (.ref b21)), (.val (.int (1 : Int32))), (.val (.int s2)), (.val (.int (2 : Int32))), (.val (.int w2))]) rfl rfl ?_
  refine go_iload C (pc' := 108) d5_106 rfl rfl ?_
  refine go_iload C (pc' := 110) d5_108 rfl rfl ?_
  refine go_iadd C (pc' := 111) d5_110 rfl ?_
  refine go_st (st' := [(.int s3)]) (by rw [hs3]) ?_
  refine go_bipush C (pc' := 113) d5_111 (z := (64 : Int32)) (by decide) rfl ?_
  refine go_icmpYes C (pc' := 129) d5_113 (flt hc2).2.2.2 (by decide) (by decide) ?_
  refine go_aloadN C (pc' := 130) d5_129 rfl rfl rfl ?_
  have fx34 := ((fx28.other W29 (Or.inl (ne_i (by omega)))).other W31 (Or.inl (ne_i (by omega))))
  refine gF C (pc' := 133) (wd_40 hw) fx34 d5_130 rfl ?_
  refine go_iload C (pc' := 135) d5_133 rfl rfl ?_
  refine go_iload C (pc' := 137) d5_135 rfl rfl ?_
  refine go_iaset C (pc' := 138) (A29.other W31 (ne_i (by omega))) (by decide) (i := 2) (by decide) (by simp) (vs' := [(.int (0 : Int32)), (.int s1), (.int s2), (.int (0 : Int32))]) rfl d5_137 rfl n14 ?_
  intro h35 W35 A35
  refine go_old fun O35 => ?_
  refine go_aloadN C (pc' := 139) d5_138 rfl rfl rfl ?_
  have fx36 := ((fx30.other W31 (Or.inl (ne_i (by omega)))).other W35 (Or.inl (ne_i (by omega))))
  refine gF C (pc' := 142) (wd_42 hw) fx36 d5_139 rfl ?_
  refine go_iload C (pc' := 144) d5_142 rfl rfl ?_
  refine go_lconst C (pc' := 145) d5_144 (z := (1 : Int64)) (by decide) rfl ?_
  refine go_iload C (pc' := 147) d5_145 rfl rfl ?_
  refine go_lshl C (pc' := 148) d5_147 rfl ?_
  refine go_lconst C (pc' := 149) d5_148 (z := (1 : Int64)) (by decide) rfl ?_
  refine go_lsub C (pc' := 150) d5_149 rfl ?_
  refine go_st (st' := [(.long m2), (.int (2 : Int32)), (.ref b18)]) (by rw [hm2]) ?_
  refine go_laset C (pc' := 151) (A31.other W35 (ne_i (by omega))) (by decide) (i := 2) (by decide) (by simp) (vs' := [(.long m0), (.long m1), (.long m2), (.long (0 : Int64))]) rfl d5_150 rfl n18 ?_
  intro h37 W37 A37
  refine go_old fun O37 => ?_
  refine go_iload C (pc' := 153) d5_151 rfl rfl ?_
  refine go_iload C (pc' := 155) d5_153 rfl rfl ?_
  refine go_iadd C (pc' := 156) d5_155 rfl ?_
  refine go_st (st' := [(.int s3)]) (by rw [hs3]) ?_
  refine go_istore C (pc' := 158) d5_156 (Ls' := #[(.val (.ref b)), (.val (.ref al)), (.val (.ref ah)), (.val (.int kd)), (.val (.int (4 : Int32))), (.val (.ref b21)), (.val (.int (1 : Int32))), (.val (.int s3)), (.val (.int (2 : Int32))), (.val (.int w2))]) rfl rfl ?_
  refine gI C (pc' := 161) d5_158 rfl (z := (3 : Int32)) (by decide) (Ls' := #[(.val (.ref b)), (.val (.ref al)), (.val (.ref ah)), (.val (.int kd)), (.val (.int (4 : Int32))), (.val (.ref b21)), (.val (.int (1 : Int32))), (.val (.int s3)), (.val (.int (3 : Int32))), (.val (.int w2))]) rfl rfl ?_
  refine go_goto C (pc' := 80) d5_161 (by decide) (by decide) ?_
  refine go_iload C (pc' := 82) d5_80 rfl rfl ?_
  refine go_iload C (pc' := 84) d5_82 rfl rfl ?_
  refine go_icmpNo C (pc' := 87) d5_84 (by decide) rfl ?_
  refine go_bipush C (pc' := 89) d5_87 (z := (64 : Int32)) (by decide) rfl ?_
  refine go_aloadN C (pc' := 90) d5_89 rfl rfl rfl ?_
  refine go_iload C (pc' := 92) d5_90 rfl rfl ?_
  refine go_iaget C (pc' := 93) ((fx32.other W35 (ne_i (by omega))).other W37 (ne_i (by omega))) (by decide) (i := 3) (by decide) rfl d5_92 rfl ?_
  refine go_i2l C (pc' := 94) d5_93 rfl ?_
  refine go_aloadN C (pc' := 95) d5_94 rfl rfl rfl ?_
  refine go_iload C (pc' := 97) d5_95 rfl rfl ?_
  refine go_iaget C (pc' := 98) ((fx33.other W35 (ne_i (by omega))).other W37 (ne_i (by omega))) (by decide) (i := 3) (by decide) rfl d5_97 rfl ?_
  refine go_i2l C (pc' := 99) d5_98 rfl ?_
  refine go_lsub C (pc' := 100) d5_99 rfl ?_
  refine go_callS C (pc' := 103) (y' := (⟨"java/lang/Long", "numberOfLeadingZeros", "(J)I"⟩ : MethodName)) (wd_44 hw) (wd_45 hw) (nlzL_met l Z a0 hw _ _ O37 ((u3).toInt64 - (l3).toInt64) hz3) (wd_47 hw) (wd_46 hw) (by decide) (by decide) (W := 1) (Nat.le_of_ble_eq_true rfl) (by decide) (by decide) (by decide) rfl (argsL := [(.long ((u3).toInt64 - (l3).toInt64))]) (rest := [(.int (64 : Int32))]) pd_2 rfl rfl rfl d5_100 rfl ?_
  rintro _ _ ⟨rfl, rfl⟩
  refine go_st (st' := [(.int ((32 : Int32) + (nlI ((u3).toInt64 - (l3).toInt64).toInt32))), (.int (64 : Int32))]) rfl ?_
  refine go_isub C (pc' := 104) d5_103 rfl ?_
  refine go_st (st' := [(.int w3)]) (by rw [hb3]) ?_
  refine go_istore C (pc' := 106) d5_104 (Ls' := #[(.val (.ref b)), (.val (.ref al)), (.val (.ref ah)), (.val (.int kd)), (.val (.int (4 : Int32))), (.val (.ref b21)), (.val (.int (1 : Int32))), (.val (.int s3)), (.val (.int (3 : Int32))), (.val (.int w3))]) rfl rfl ?_
  refine go_iload C (pc' := 108) d5_106 rfl rfl ?_
  refine go_iload C (pc' := 110) d5_108 rfl rfl ?_
  refine go_iadd C (pc' := 111) d5_110 rfl ?_
  refine go_bipush C (pc' := 113) d5_111 (z := (64 : Int32)) (by decide) rfl ?_
  refine go_icmpYes C (pc' := 129) d5_113 (flt hc3).2.2.2 (by decide) (by decide) ?_
  refine go_aloadN C (pc' := 130) d5_129 rfl rfl rfl ?_
  have fx38 := ((fx34.other W35 (Or.inl (ne_i (by omega)))).other W37 (Or.inl (ne_i (by omega))))
  refine gF C (pc' := 133) (wd_40 hw) fx38 d5_130 rfl ?_
  refine go_iload C (pc' := 135) d5_133 rfl rfl ?_
  refine go_iload C (pc' := 137) d5_135 rfl rfl ?_
  refine go_iaset C (pc' := 138) (A35.other W37 (ne_i (by omega))) (by decide) (i := 3) (by decide) (by simp) (vs' := [(.int (0 : Int32)), (.int s1), (.int s2), (.int s3)]) rfl d5_137 rfl n14 ?_
  intro h39 W39 A39
  refine go_old fun O39 => ?_
  refine go_aloadN C (pc' := 139) d5_138 rfl rfl rfl ?_
  have fx40 := ((fx36.other W37 (Or.inl (ne_i (by omega)))).other W39 (Or.inl (ne_i (by omega))))
  refine gF C (pc' := 142) (wd_42 hw) fx40 d5_139 rfl ?_
  refine go_iload C (pc' := 144) d5_142 rfl rfl ?_
  refine go_lconst C (pc' := 145) d5_144 (z := (1 : Int64)) (by decide) rfl ?_
  refine go_iload C (pc' := 147) d5_145 rfl rfl ?_
  refine go_lshl C (pc' := 148) d5_147 rfl ?_
  refine go_lconst C (pc' := 149) d5_148 (z := (1 : Int64)) (by decide) rfl ?_
  refine go_lsub C (pc' := 150) d5_149 rfl ?_
  refine go_st (st' := [(.long m3), (.int (3 : Int32)), (.ref b18)]) (by rw [hm3]) ?_
  refine go_laset C (pc' := 151) (A37.other W39 (ne_i (by omega))) (by decide) (i := 3) (by decide) (by simp) (vs' := [(.long m0), (.long m1), (.long m2), (.long m3)]) rfl d5_150 rfl n18 ?_
  intro h41 W41 A41
  refine go_old fun O41 => ?_
  refine go_iload C (pc' := 153) d5_151 rfl rfl ?_
  refine go_iload C (pc' := 155) d5_153 rfl rfl ?_
  refine go_iadd C (pc' := 156) d5_155 rfl ?_
  refine go_istore C (pc' := 158) d5_156 (Ls' := #[(.val (.ref b)), (.val (.ref al)), (.val (.ref ah)), (.val (.int kd)), (.val (.int (4 : Int32))), (.val (.ref b21)), (.val (.int (1 : Int32))), (.val (.int (s3 + w3))), (.val (.int (3 : Int32))), (.val (.int w3))]) rfl rfl ?_
  refine gI C (pc' := 161) d5_158 rfl (z := (4 : Int32)) (by decide) (Ls' := #[(.val (.ref b)), (.val (.ref al)), (.val (.ref ah)), (.val (.int kd)), (.val (.int (4 : Int32))), (.val (.ref b21)), (.val (.int (1 : Int32))), (.val (.int (s3 + w3))), (.val (.int (4 : Int32))), (.val (.int w3))]) rfl rfl ?_
  refine go_goto C (pc' := 80) d5_161 (by decide) (by decide) ?_
  refine go_iload C (pc' := 82) d5_80 rfl rfl ?_
  refine go_iload C (pc' := 84) d5_82 rfl rfl ?_
  refine go_icmpYes C (pc' := 164) d5_84 (by decide) (by decide) (by decide) ?_
  refine go_aload C (pc' := 166) d5_164 rfl rfl rfl ?_
  refine go_iload C (pc' := 168) d5_166 rfl rfl ?_
  refine go_iload C (pc' := 170) d5_168 rfl rfl ?_
  have fx43 := ((((((((A21.other W24 (ne_i (by omega))).other W26 (ne_i (by omega))).other W29 (ne_i (by omega))).other W31 (ne_i (by omega))).other W35 (ne_i (by omega))).other W37 (ne_i (by omega))).other W39 (ne_i (by omega))).other W41 (ne_i (by omega)))
  refine go_iaset C (pc' := 171) fx43 (by decide) (i := 1) (by decide) (by simp) (vs' := [(.int (0 : Int32)), (.int (4 : Int32)), (.int (0 : Int32)), (.int (0 : Int32)), (.int (0 : Int32)), (.int (0 : Int32))]) rfl d5_170 rfl n21 ?_
  intro h42 W42 A42
  refine go_old fun O42 => ?_
  refine go_aloadN C (pc' := 172) d5_171 rfl rfl rfl ?_
  refine go_aload C (pc' := 174) d5_172 rfl rfl rfl ?_
  refine go_iload C (pc' := 176) d5_174 rfl rfl ?_
  refine go_iconst C (pc' := 177) d5_176 (z := (1 : Int32)) (by decide) rfl ?_
  refine go_iadd C (pc' := 178) d5_177 rfl ?_
  refine go_st (st' := [(.int (2 : Int32)), (.ref b21), (.ref b)]) (by rw [show ((1 : Int32) + (1 : Int32)) = (2 : Int32) from by decide]) ?_
  refine go_callS C (pc' := 181) (y' := (⟨"java/util/Arrays", "copyOf", "([II)[I"⟩ : MethodName)) (wd_53 hw) (wd_54 hw) (copyOf1_met l Z a0 hw _ _ O42 A42) (wd_56 hw) (wd_55 hw) (by decide) (by decide) (W := 1) (Nat.le_of_ble_eq_true rfl) (by decide) (by decide) (by decide) rfl (argsL := [(.ref b21), (.int (2 : Int32))]) (rest := [(.ref b)]) pd_3 rfl rfl rfl d5_178 rfl ?_
  rintro _ h44 ⟨fi, kfi, rfl, ltfi, Kfi, Afi⟩
  refine go_st (st' := [(.ref fi), (.ref b)]) rfl ?_
  refine go_old fun O44 => ?_
  have fx45 := (((((((((((((((((((((((F_b_firstInt.ext E1).other W2 (Or.inr (sn_15 hw))).ext E3).other W4 (Or.inr (sn_16 hw))).ext E5).other W8 (Or.inr (sn_17 hw))).ext E9).other W12 (Or.inr (sn_18 hw))).ext E14).other W17 (Or.inr (sn_19 hw))).ext E18).other W20 (Or.inr (sn_20 hw))).ext E21).other W24 (Or.inl (ne_i (by omega)))).other W26 (Or.inl (ne_i (by omega)))).other W29 (Or.inl (ne_i (by omega)))).other W31 (Or.inl (ne_i (by omega)))).other W35 (Or.inl (ne_i (by omega)))).other W37 (Or.inl (ne_i (by omega)))).other W39 (Or.inl (ne_i (by omega)))).other W41 (Or.inl (ne_i (by omega)))).other W42 (Or.inl (ne_i (by omega)))).keep Kfi nin0)
  have fx46 := ((((((((((((((fx16.wr W17).ext E18).wr W20).ext E21).wr W24).wr W26).wr W29).wr W31).wr W35).wr W37).wr W39).wr W41).wr W42).keep Kfi)
  refine go_putF C (pc' := 184) (host := "") (Or.inl (wd_62 hw)) Via.refl fx45 fx46 (Or.inr ⟨(wd_63 hw), rfl, rfl⟩) (wd_12 hw) (ty := (.array .int)) (by decide) rfl rfl d5_181 rfl nb ?_
  intro h47 W47 F47
  refine go_old fun O47 => ?_
  refine go_aloadN C (pc' := 185) d5_184 rfl rfl rfl ?_
  refine go_iload C (pc' := 187) d5_185 rfl rfl ?_
  have fx48 := ((((((((((((((((((((((((F_b_words.ext E1).other W2 (Or.inr (sn_21 hw))).ext E3).other W4 (Or.inr (sn_22 hw))).ext E5).other W8 (Or.inr (sn_23 hw))).ext E9).other W12 (Or.inr (sn_24 hw))).ext E14).other W17 (Or.inr (sn_25 hw))).ext E18).other W20 (Or.inr (sn_26 hw))).ext E21).other W24 (Or.inl (ne_i (by omega)))).other W26 (Or.inl (ne_i (by omega)))).other W29 (Or.inl (ne_i (by omega)))).other W31 (Or.inl (ne_i (by omega)))).other W35 (Or.inl (ne_i (by omega)))).other W37 (Or.inl (ne_i (by omega)))).other W39 (Or.inl (ne_i (by omega)))).other W41 (Or.inl (ne_i (by omega)))).other W42 (Or.inl (ne_i (by omega)))).keep Kfi nin0).other W47 (Or.inr (sn_27 hw)))
  refine go_putF C (pc' := 190) (host := "") (Or.inl (wd_64 hw)) Via.refl fx48 (fx46.wr W47) (Or.inr ⟨(wd_65 hw), rfl, rfl⟩) (wd_12 hw) (ty := .int) (by decide) rfl rfl d5_187 rfl nb ?_
  intro h49 W49 F49
  refine go_old fun O49 => ?_
  refine go_aloadN C (pc' := 191) d5_190 rfl rfl rfl ?_
  refine go_aloadN C (pc' := 192) d5_191 rfl rfl rfl ?_
  refine gF C (pc' := 195) (wd_64 hw) F49 d5_192 rfl ?_
  refine go_newPA C (pc' := 197) (len := 1) (ty := .long) rfl (wd_24 hw) d5_195 rfl (by decide) (by decide) (by decide) (by decide) (by decide) ?_
  intro h50 b50 k50 g50 n50 E50 A50
  have sz_b50 := Nat.le_trans (Nat.le_trans (Nat.le_trans (Nat.le_trans (Nat.le_trans (Nat.le_trans (Nat.le_trans (Nat.le_trans (Nat.le_trans (Nat.le_trans (Nat.le_trans (Nat.le_trans (Nat.le_trans (Nat.le_trans (Nat.le_trans (Nat.le_trans (Nat.le_trans (Nat.le_trans (Nat.le_trans (Nat.le_trans (Nat.le_trans (Nat.le_trans (Nat.le_trans (Nat.le_trans (Nat.le_trans (Nat.le_trans (Nat.le_refl _) E1.1) (Nat.le_of_eq W2.size.symm)) E3.1) (Nat.le_of_eq W4.size.symm)) E5.1) (Nat.le_of_eq W8.size.symm)) E9.1) (Nat.le_of_eq W12.size.symm)) E14.1) (Nat.le_of_eq W17.size.symm)) E18.1) (Nat.le_of_eq W20.size.symm)) E21.1) (Nat.le_of_eq W24.size.symm)) (Nat.le_of_eq W26.size.symm)) (Nat.le_of_eq W29.size.symm)) (Nat.le_of_eq W31.size.symm)) (Nat.le_of_eq W35.size.symm)) (Nat.le_of_eq W37.size.symm)) (Nat.le_of_eq W39.size.symm)) (Nat.le_of_eq W41.size.symm)) (Nat.le_of_eq W42.size.symm)) Kfi.1) (Nat.le_of_eq W47.size.symm)) (Nat.le_of_eq W49.size.symm)) (Nat.le_of_eq g50.symm)
  have lt_b50 : @LT.lt Nat _ fi b50 := by rw [g50]; exact ((Afi.other W47 (ne_i (by omega))).other W49 (ne_i (by omega))).lt
  refine go_old fun O50 => ?_
  have fx51 := ((((((((((((((((((((((((((F_b_keyMask.ext E1).other W2 (Or.inr (sn_28 hw))).ext E3).other W4 (Or.inr (sn_29 hw))).ext E5).other W8 (Or.inr (sn_30 hw))).ext E9).other W12 (Or.inr (sn_31 hw))).ext E14).other W17 (Or.inr (sn_32 hw))).ext E18).other W20 (Or.inr (sn_33 hw))).ext E21).other W24 (Or.inl (ne_i (by omega)))).other W26 (Or.inl (ne_i (by omega)))).other W29 (Or.inl (ne_i (by omega)))).other W31 (Or.inl (ne_i (by omega)))).other W35 (Or.inl (ne_i (by omega)))).other W37 (Or.inl (ne_i (by omega)))).other W39 (Or.inl (ne_i (by omega)))).other W41 (Or.inl (ne_i (by omega)))).other W42 (Or.inl (ne_i (by omega)))).keep Kfi nin0).other W47 (Or.inr (sn_34 hw))).other W49 (Or.inr (sn_35 hw))).ext E50)
  refine go_putF C (pc' := 200) (host := "") (Or.inl (wd_66 hw)) Via.refl fx51 (((fx46.wr W47).wr W49).ext E50) (Or.inr ⟨(wd_67 hw), rfl, rfl⟩) (wd_12 hw) (ty := (.array .long)) (by decide) rfl rfl d5_197 rfl nb ?_
  intro h52 W52 F52
  refine go_old fun O52 => ?_
  have fx53 := ((((((((((fx33.other W35 (ne_i (by omega))).other W37 (ne_i (by omega))).other W39 (ne_i (by omega))).other W41 (ne_i (by omega))).other W42 (ne_i (by omega))).keep Kfi nin0).other W47 (ne_i (by omega))).other W49 (ne_i (by omega))).ext E50).other W52 (ne_i (by omega)))
  have fx54 := ((((((((((fx32.other W35 (ne_i (by omega))).other W37 (ne_i (by omega))).other W39 (ne_i (by omega))).other W41 (ne_i (by omega))).other W42 (ne_i (by omega))).keep Kfi nin0).other W47 (ne_i (by omega))).other W49 (ne_i (by omega))).ext E50).other W52 (ne_i (by omega)))
  have fx55 := (((((((((((((((((((((((((((Eal.ext E1).wr W2).ext E3).wr W4).ext E5).wr W8).ext E9).wr W12).ext E14).wr W17).ext E18).wr W20).ext E21).wr W24).wr W26).wr W29).wr W31).wr W35).wr W37).wr W39).wr W41).wr W42).keep Kfi).wr W47).wr W49).ext E50).wr W52)
  have fx56 := (((((((((((((((((((((((((((Eah.ext E1).wr W2).ext E3).wr W4).ext E5).wr W8).ext E9).wr W12).ext E14).wr W17).ext E18).wr W20).ext E21).wr W24).wr W26).wr W29).wr W31).wr W35).wr W37).wr W39).wr W41).wr W42).keep Kfi).wr W47).wr W49).ext E50).wr W52)
  have fx57 := (((((((((((((((((((((F8.ext E9).other W12 (Or.inr (sn_5 hw).symm)).ext E14).other W17 (Or.inr (sn_8 hw).symm)).ext E18).other W20 (Or.inr (sn_12 hw).symm)).ext E21).other W24 (Or.inl (ne_i (by omega)))).other W26 (Or.inl (ne_i (by omega)))).other W29 (Or.inl (ne_i (by omega)))).other W31 (Or.inl (ne_i (by omega)))).other W35 (Or.inl (ne_i (by omega)))).other W37 (Or.inl (ne_i (by omega)))).other W39 (Or.inl (ne_i (by omega)))).other W41 (Or.inl (ne_i (by omega)))).other W42 (Or.inl (ne_i (by omega)))).keep Kfi nin0).other W47 (Or.inr (sn_17 hw).symm)).other W49 (Or.inr (sn_23 hw).symm)).ext E50).other W52 (Or.inr (sn_30 hw).symm))
  have fx58 := (((((((((((((((((((F12.ext E14).other W17 (Or.inr (sn_9 hw).symm)).ext E18).other W20 (Or.inr (sn_13 hw).symm)).ext E21).other W24 (Or.inl (ne_i (by omega)))).other W26 (Or.inl (ne_i (by omega)))).other W29 (Or.inl (ne_i (by omega)))).other W31 (Or.inl (ne_i (by omega)))).other W35 (Or.inl (ne_i (by omega)))).other W37 (Or.inl (ne_i (by omega)))).other W39 (Or.inl (ne_i (by omega)))).other W41 (Or.inl (ne_i (by omega)))).other W42 (Or.inl (ne_i (by omega)))).keep Kfi nin0).other W47 (Or.inr (sn_18 hw).symm)).other W49 (Or.inr (sn_24 hw).symm)).ext E50).other W52 (Or.inr (sn_31 hw).symm))
  have fx59 := (((F47.other W49 (Or.inr (sn_27 hw).symm)).ext E50).other W52 (Or.inr (sn_34 hw).symm))
  have fx60 := ((((((((fx38.other W39 (Or.inl (ne_i (by omega)))).other W41 (Or.inl (ne_i (by omega)))).other W42 (Or.inl (ne_i (by omega)))).keep Kfi nin0).other W47 (Or.inr (sn_19 hw).symm)).other W49 (Or.inr (sn_25 hw).symm)).ext E50).other W52 (Or.inr (sn_32 hw).symm))
  have fx61 := (((((((fx40.other W41 (Or.inl (ne_i (by omega)))).other W42 (Or.inl (ne_i (by omega)))).keep Kfi nin0).other W47 (Or.inr (sn_20 hw).symm)).other W49 (Or.inr (sn_26 hw).symm)).ext E50).other W52 (Or.inr (sn_33 hw).symm))
  have fx62 := (((((((((((((((((((((((((((F_b_pageShift.ext E1).other W2 (Or.inr (sn_36 hw))).ext E3).other W4 (Or.inr (sn_37 hw))).ext E5).other W8 (Or.inr (sn_38 hw))).ext E9).other W12 (Or.inr (sn_39 hw))).ext E14).other W17 (Or.inr (sn_40 hw))).ext E18).other W20 (Or.inr (sn_41 hw))).ext E21).other W24 (Or.inl (ne_i (by omega)))).other W26 (Or.inl (ne_i (by omega)))).other W29 (Or.inl (ne_i (by omega)))).other W31 (Or.inl (ne_i (by omega)))).other W35 (Or.inl (ne_i (by omega)))).other W37 (Or.inl (ne_i (by omega)))).other W39 (Or.inl (ne_i (by omega)))).other W41 (Or.inl (ne_i (by omega)))).other W42 (Or.inl (ne_i (by omega)))).keep Kfi nin0).other W47 (Or.inr (sn_42 hw))).other W49 (Or.inr (sn_43 hw))).ext E50).other W52 (Or.inr (sn_44 hw)))
  have fx63 := (((((((((((((((((((((((((F2.ext E3).other W4 (Or.inr (sn_0 hw).symm)).ext E5).other W8 (Or.inr (sn_1 hw).symm)).ext E9).other W12 (Or.inr (sn_3 hw).symm)).ext E14).other W17 (Or.inr (sn_6 hw).symm)).ext E18).other W20 (Or.inr (sn_10 hw).symm)).ext E21).other W24 (Or.inl (ne_i (by omega)))).other W26 (Or.inl (ne_i (by omega)))).other W29 (Or.inl (ne_i (by omega)))).other W31 (Or.inl (ne_i (by omega)))).other W35 (Or.inl (ne_i (by omega)))).other W37 (Or.inl (ne_i (by omega)))).other W39 (Or.inl (ne_i (by omega)))).other W41 (Or.inl (ne_i (by omega)))).other W42 (Or.inl (ne_i (by omega)))).keep Kfi nin0).other W47 (Or.inr (sn_15 hw).symm)).other W49 (Or.inr (sn_21 hw).symm)).ext E50).other W52 (Or.inr (sn_28 hw).symm))
  have fx64 := (((((((((((((((((((((((((((F_b_size.ext E1).other W2 (Or.inr (sn_45 hw))).ext E3).other W4 (Or.inr (sn_46 hw))).ext E5).other W8 (Or.inr (sn_47 hw))).ext E9).other W12 (Or.inr (sn_48 hw))).ext E14).other W17 (Or.inr (sn_49 hw))).ext E18).other W20 (Or.inr (sn_50 hw))).ext E21).other W24 (Or.inl (ne_i (by omega)))).other W26 (Or.inl (ne_i (by omega)))).other W29 (Or.inl (ne_i (by omega)))).other W31 (Or.inl (ne_i (by omega)))).other W35 (Or.inl (ne_i (by omega)))).other W37 (Or.inl (ne_i (by omega)))).other W39 (Or.inl (ne_i (by omega)))).other W41 (Or.inl (ne_i (by omega)))).other W42 (Or.inl (ne_i (by omega)))).keep Kfi nin0).other W47 (Or.inr (sn_51 hw))).other W49 (Or.inr (sn_52 hw))).ext E50).other W52 (Or.inr (sn_53 hw)))
  have fx65 := (((((((((((((((((((((((F4.ext E5).other W8 (Or.inr (sn_2 hw).symm)).ext E9).other W12 (Or.inr (sn_4 hw).symm)).ext E14).other W17 (Or.inr (sn_7 hw).symm)).ext E18).other W20 (Or.inr (sn_11 hw).symm)).ext E21).other W24 (Or.inl (ne_i (by omega)))).other W26 (Or.inl (ne_i (by omega)))).other W29 (Or.inl (ne_i (by omega)))).other W31 (Or.inl (ne_i (by omega)))).other W35 (Or.inl (ne_i (by omega)))).other W37 (Or.inl (ne_i (by omega)))).other W39 (Or.inl (ne_i (by omega)))).other W41 (Or.inl (ne_i (by omega)))).other W42 (Or.inl (ne_i (by omega)))).keep Kfi nin0).other W47 (Or.inr (sn_16 hw).symm)).other W49 (Or.inr (sn_22 hw).symm)).ext E50).other W52 (Or.inr (sn_29 hw).symm))
  have fx66 := (((((((((((((((((((((((((((F_b_packed.ext E1).other W2 (Or.inr (sn_54 hw))).ext E3).other W4 (Or.inr (sn_55 hw))).ext E5).other W8 (Or.inr (sn_56 hw))).ext E9).other W12 (Or.inr (sn_57 hw))).ext E14).other W17 (Or.inr (sn_58 hw))).ext E18).other W20 (Or.inr (sn_59 hw))).ext E21).other W24 (Or.inl (ne_i (by omega)))).other W26 (Or.inl (ne_i (by omega)))).other W29 (Or.inl (ne_i (by omega)))).other W31 (Or.inl (ne_i (by omega)))).other W35 (Or.inl (ne_i (by omega)))).other W37 (Or.inl (ne_i (by omega)))).other W39 (Or.inl (ne_i (by omega)))).other W41 (Or.inl (ne_i (by omega)))).other W42 (Or.inl (ne_i (by omega)))).keep Kfi nin0).other W47 (Or.inr (sn_60 hw))).other W49 (Or.inr (sn_61 hw))).ext E50).other W52 (Or.inr (sn_62 hw)))
  have fx67 := ((((((((((((((((((((((((((A1.other W2 (ne_i (by omega))).ext E3).other W4 (ne_i (by omega))).ext E5).other W8 (ne_i (by omega))).ext E9).other W12 (ne_i (by omega))).ext E14).other W17 (ne_i (by omega))).ext E18).other W20 (ne_i (by omega))).ext E21).other W24 (ne_i (by omega))).other W26 (ne_i (by omega))).other W29 (ne_i (by omega))).other W31 (ne_i (by omega))).other W35 (ne_i (by omega))).other W37 (ne_i (by omega))).other W39 (ne_i (by omega))).other W41 (ne_i (by omega))).other W42 (ne_i (by omega))).keep Kfi nin0).other W47 (ne_i (by omega))).other W49 (ne_i (by omega))).ext E50).other W52 (ne_i (by omega)))
  have fx68 := ((((((((((((((((((((((((A3.other W4 (ne_i (by omega))).ext E5).other W8 (ne_i (by omega))).ext E9).other W12 (ne_i (by omega))).ext E14).other W17 (ne_i (by omega))).ext E18).other W20 (ne_i (by omega))).ext E21).other W24 (ne_i (by omega))).other W26 (ne_i (by omega))).other W29 (ne_i (by omega))).other W31 (ne_i (by omega))).other W35 (ne_i (by omega))).other W37 (ne_i (by omega))).other W39 (ne_i (by omega))).other W41 (ne_i (by omega))).other W42 (ne_i (by omega))).keep Kfi nin0).other W47 (ne_i (by omega))).other W49 (ne_i (by omega))).ext E50).other W52 (ne_i (by omega)))
  have fx69 := ((((((((((((((((((((((A5.other W8 (ne_i (by omega))).ext E9).other W12 (ne_i (by omega))).ext E14).other W17 (ne_i (by omega))).ext E18).other W20 (ne_i (by omega))).ext E21).other W24 (ne_i (by omega))).other W26 (ne_i (by omega))).other W29 (ne_i (by omega))).other W31 (ne_i (by omega))).other W35 (ne_i (by omega))).other W37 (ne_i (by omega))).other W39 (ne_i (by omega))).other W41 (ne_i (by omega))).other W42 (ne_i (by omega))).keep Kfi nin0).other W47 (ne_i (by omega))).other W49 (ne_i (by omega))).ext E50).other W52 (ne_i (by omega)))
  have fx70 := ((((((((((((((((((((((X5.wr W8).ext E9).wr W12).ext E14).wr W17).ext E18).wr W20).ext E21).wr W24).wr W26).wr W29).wr W31).wr W35).wr W37).wr W39).wr W41).wr W42).keep Kfi).wr W47).wr W49).ext E50).wr W52)
  have fx71 := ((((((((((((((((((((A9.other W12 (ne_i (by omega))).ext E14).other W17 (ne_i (by omega))).ext E18).other W20 (ne_i (by omega))).ext E21).other W24 (ne_i (by omega))).other W26 (ne_i (by omega))).other W29 (ne_i (by omega))).other W31 (ne_i (by omega))).other W35 (ne_i (by omega))).other W37 (ne_i (by omega))).other W39 (ne_i (by omega))).other W41 (ne_i (by omega))).other W42 (ne_i (by omega))).keep Kfi nin0).other W47 (ne_i (by omega))).other W49 (ne_i (by omega))).ext E50).other W52 (ne_i (by omega)))
  have fx72 := ((((((((((((((((((((X9.wr W12).ext E14).wr W17).ext E18).wr W20).ext E21).wr W24).wr W26).wr W29).wr W31).wr W35).wr W37).wr W39).wr W41).wr W42).keep Kfi).wr W47).wr W49).ext E50).wr W52)
  have fx73 := (((((((A39.other W41 (ne_i (by omega))).other W42 (ne_i (by omega))).keep Kfi nin0).other W47 (ne_i (by omega))).other W49 (ne_i (by omega))).ext E50).other W52 (ne_i (by omega)))
  have fx74 := ((((((A41.other W42 (ne_i (by omega))).keep Kfi nin0).other W47 (ne_i (by omega))).other W49 (ne_i (by omega))).ext E50).other W52 (ne_i (by omega)))
  have fx75 := (((((A42.keep Kfi nin0).other W47 (ne_i (by omega))).other W49 (ne_i (by omega))).ext E50).other W52 (ne_i (by omega)))
  have fx76 := ((((Afi.other W47 (ne_i (by omega))).other W49 (ne_i (by omega))).ext E50).other W52 (ne_i (by omega)))
  have J : ∀ (hh : Heap) (y9 : Int32) (KM0 : Int64) (fa0 : Exa Z hh b "com/example/invariant/invariant/check/ConfigurationStore") (fa1 : Fld Z hh b "com/example/invariant/invariant/check/ConfigurationStore" "low" "[I" (.ref b5)) (fa2 : Fld Z hh b "com/example/invariant/invariant/check/ConfigurationStore" "high" "[I" (.ref b9)) (fa3 : Fld Z hh b "com/example/invariant/invariant/check/ConfigurationStore" "firstInt" "[I" (.ref fi)) (fa4 : Fld Z hh b "com/example/invariant/invariant/check/ConfigurationStore" "words" "I" (.int (1 : Int32))) (fa5 : Fld Z hh b "com/example/invariant/invariant/check/ConfigurationStore" "shift" "[I" (.ref b14)) (fa6 : Fld Z hh b "com/example/invariant/invariant/check/ConfigurationStore" "mask" "[J" (.ref b18)) (fa7 : Fld Z hh b "com/example/invariant/invariant/check/ConfigurationStore" "keyMask" "[J" (.ref b50)) (fa8 : Fld Z hh b "com/example/invariant/invariant/check/ConfigurationStore" "pageShift" "I" (.int (0 : Int32))) (fa9 : Fld Z hh b "com/example/invariant/invariant/check/ConfigurationStore" "pages" "[[J" (.ref b1)) (fa10 : Fld Z hh b "com/example/invariant/invariant/check/ConfigurationStore" "size" "I" (.int (0 : Int32))) (fa11 : Fld Z hh b "com/example/invariant/invariant/check/ConfigurationStore" "table" "[J" (.ref b3)) (fa12 : Fld Z hh b "com/example/invariant/invariant/check/ConfigurationStore" "packed" "[J" .null) (fa13 : Ar Z hh b1 (.array .long) k1 [.null]) (fa14 : Ar Z hh b3 .long k3 (List.replicate 128 (.long (0 : Int64)))) (fa15 : Ar Z hh b5 .int kal [(.int l0), (.int l1), (.int l2), (.int l3)]) (fa16 : Ar Z hh b9 .int kah [(.int u0), (.int u1), (.int u2), (.int u3)]) (fa17 : Ar Z hh b14 .int k14 [(.int (0 : Int32)), (.int s1), (.int s2), (.int s3)]) (fa18 : Ar Z hh b18 .long k18 [(.long m0), (.long m1), (.long m2), (.long m3)]) (fa19 : Ar Z hh fi .int kfi [(.int (0 : Int32)), (.int (4 : Int32))]) (fa20 : Ar Z hh b50 .long k50 [(.long KM0)]) (K0 : Keep h hh [b]), Go p l e ({ frames := 2, cells := 10, slots := 155, locals := 55 } : Room) s m #[(.ref b), (.ref al), (.ref ah), (.int kd)] below meth cd Z n0 (fun v h' => v = none ∧ ∃ (pgs tb lo hi sh mk fi km pk : Nat) (kpgs ktb klo khi ksh kmk kfi kkm kpk : ClassId) (KM0 : Int64), Sto Z h' b pgs tb lo hi sh mk fi km pk kpgs ktb klo khi ksh kmk kfi kkm kpk (1 : Int32) (20 : Int32) (0 : Int32) [.null] (List.replicate 128 (.long (0 : Int64))) [(.int l0), (.int l1), (.int l2), (.int l3)] [(.int u0), (.int u1), (.int u2), (.int u3)] [(.int (0 : Int32)), (.int s1), (.int s2), (.int s3)] [(.long m0), (.long m1), (.long m2), (.long m3)] [(.int (0 : Int32)), (.int (4 : Int32))] [(.long KM0)] [(.long (0 : Int64))] ∧ Ord n0 b pgs tb lo hi sh mk fi km pk ∧ Keep h h' [b]) 10 155 hh 9 154 (mkF m 278 #[(.val (.ref b)), (.val (.ref al)), (.val (.ref ah)), (.val (.int kd)), (.val (.int (4 : Int32))), (.val (.ref b21)), (.val (.int (1 : Int32))), (.val (.int (s3 + w3))), (.val (.int (1 : Int32))), (.val (.int y9))] []) := by
    intro hh y9 KM0 fa0 fa1 fa2 fa3 fa4 fa5 fa6 fa7 fa8 fa9 fa10 fa11 fa12 fa13 fa14 fa15 fa16 fa17 fa18 fa19 fa20 K0
    refine go_old fun Oh => ?_
    refine go_aloadN C (pc' := 279) d5_278 rfl rfl rfl ?_
    refine go_bipush C (pc' := 281) d5_279 (z := (31 : Int32)) (by decide) rfl ?_
    refine go_ldcInt C (pc' := 283) (wd_68 hw) d5_281 rfl ?_
    refine go_aloadN C (pc' := 284) d5_283 rfl rfl rfl ?_
    refine gF C (pc' := 287) (wd_64 hw) fa4 d5_284 rfl ?_
    refine go_idiv C (pc' := 288) d5_287 (by decide) rfl ?_
    refine go_st (st' := [(.int (1048576 : Int32)), (.int (31 : Int32)), (.ref b)]) (by rw [show ((1048576 : Int32) / (1 : Int32)) = (1048576 : Int32) from by decide]) ?_
    refine go_iconst C (pc' := 289) d5_288 (z := (1 : Int32)) (by decide) rfl ?_
    refine go_callS C (pc' := 292) (y' := (⟨"java/lang/Math", "max", "(II)I"⟩ : MethodName)) (wd_69 hw) (wd_5 hw) (max_met l Z a0 hw _ _ Oh (1048576 : Int32) (1 : Int32) (1048576 : Int32) (by decide)) (wd_6 hw) (wd_2 hw) (by decide) (by decide) (W := 2) (Nat.le_of_ble_eq_true rfl) (by decide) (by decide) (by decide) rfl (argsL := [(.int (1048576 : Int32)), (.int (1 : Int32))]) (rest := [(.int (31 : Int32)), (.ref b)]) pd_1 rfl rfl rfl d5_289 rfl ?_
    rintro _ _ ⟨rfl, rfl⟩
    refine go_st (st' := [(.int (1048576 : Int32)), (.int (31 : Int32)), (.ref b)]) rfl ?_
    refine go_callS C (pc' := 295) (y' := (⟨"java/lang/Integer", "numberOfLeadingZeros", "(I)I"⟩ : MethodName)) (wd_70 hw) (wd_49 hw) (nlz_met l Z a0 hw _ _ Oh (1048576 : Int32)) (wd_51 hw) (wd_50 hw) (by decide) (by decide) (W := 2) (Nat.le_of_ble_eq_true rfl) (by decide) (by decide) (by decide) rfl (argsL := [(.int (1048576 : Int32))]) (rest := [(.int (31 : Int32)), (.ref b)]) pd_0 rfl rfl rfl d5_292 rfl ?_
    rintro _ _ ⟨rfl, rfl⟩
    refine go_st (st' := [(.int (nlI (1048576 : Int32))), (.int (31 : Int32)), (.ref b)]) rfl ?_
    refine go_isub C (pc' := 296) d5_295 rfl ?_
    refine go_st (st' := [(.int (20 : Int32)), (.ref b)]) (by rw [show ((31 : Int32) - (nlI (1048576 : Int32))) = (20 : Int32) from by decide +kernel]) ?_
    refine go_putF C (pc' := 299) (host := "") (Or.inl (wd_71 hw)) Via.refl fa8 fa0 (Or.inr ⟨(wd_72 hw), rfl, rfl⟩) (wd_12 hw) (ty := .int) (by decide) rfl rfl d5_296 rfl nb ?_
    intro h77 W77 F77
    refine go_old fun O77 => ?_
    refine go_aloadN C (pc' := 300) d5_299 rfl rfl rfl ?_
    refine go_aloadN C (pc' := 301) d5_300 rfl rfl rfl ?_
    refine gF C (pc' := 304) (wd_64 hw) (fa4.other W77 (Or.inr (sn_43 hw).symm)) d5_301 rfl ?_
    refine go_newPA C (pc' := 306) (len := 1) (ty := .long) rfl (wd_24 hw) d5_304 rfl (by decide) (by decide) (by decide) (by decide) (by decide) ?_
    intro h78 b78 k78 g78 n78 E78 A78
    have sz_b78 := Nat.le_trans (Nat.le_trans (Nat.le_trans (Nat.le_refl _) K0.1) (Nat.le_of_eq W77.size.symm)) (Nat.le_of_eq g78.symm)
    have lt_b78 : @LT.lt Nat _ b50 b78 := by rw [g78]; exact (fa20.other W77 (ne_i (by omega))).lt
    refine go_old fun O78 => ?_
    refine go_putF C (pc' := 309) (host := "") (Or.inl (wd_73 hw)) Via.refl ((fa12.other W77 (Or.inr (sn_63 hw))).ext E78) ((fa0.wr W77).ext E78) (Or.inr ⟨(wd_74 hw), rfl, rfl⟩) (wd_12 hw) (ty := (.array .long)) (by decide) rfl rfl d5_306 rfl nb ?_
    intro h79 W79 F79
    refine go_old fun O79 => ?_
    have fx80 := (((fa1.other W77 (Or.inr (sn_38 hw).symm)).ext E78).other W79 (Or.inr (sn_56 hw).symm))
    have fx81 := (((fa2.other W77 (Or.inr (sn_39 hw).symm)).ext E78).other W79 (Or.inr (sn_57 hw).symm))
    have fx82 := (((fa3.other W77 (Or.inr (sn_42 hw).symm)).ext E78).other W79 (Or.inr (sn_60 hw).symm))
    have fx83 := (((fa4.other W77 (Or.inr (sn_43 hw).symm)).ext E78).other W79 (Or.inr (sn_61 hw).symm))
    have fx84 := (((fa5.other W77 (Or.inr (sn_40 hw).symm)).ext E78).other W79 (Or.inr (sn_58 hw).symm))
    have fx85 := (((fa6.other W77 (Or.inr (sn_41 hw).symm)).ext E78).other W79 (Or.inr (sn_59 hw).symm))
    have fx86 := (((fa7.other W77 (Or.inr (sn_44 hw).symm)).ext E78).other W79 (Or.inr (sn_62 hw).symm))
    have fx87 := (((fa9.other W77 (Or.inr (sn_36 hw).symm)).ext E78).other W79 (Or.inr (sn_54 hw).symm))
    have fx88 := (((fa10.other W77 (Or.inr (sn_64 hw))).ext E78).other W79 (Or.inr (sn_65 hw)))
    have fx89 := (((fa11.other W77 (Or.inr (sn_37 hw).symm)).ext E78).other W79 (Or.inr (sn_55 hw).symm))
    have fx90 := (((fa13.other W77 (ne_i (by omega))).ext E78).other W79 (ne_i (by omega)))
    have fx91 := (((fa14.other W77 (ne_i (by omega))).ext E78).other W79 (ne_i (by omega)))
    have fx92 := (((fa15.other W77 (ne_i (by omega))).ext E78).other W79 (ne_i (by omega)))
    have fx93 := (((fa16.other W77 (ne_i (by omega))).ext E78).other W79 (ne_i (by omega)))
    have fx94 := (((fa17.other W77 (ne_i (by omega))).ext E78).other W79 (ne_i (by omega)))
    have fx95 := (((fa18.other W77 (ne_i (by omega))).ext E78).other W79 (ne_i (by omega)))
    have fx96 := (((fa19.other W77 (ne_i (by omega))).ext E78).other W79 (ne_i (by omega)))
    have fx97 := (((fa20.other W77 (ne_i (by omega))).ext E78).other W79 (ne_i (by omega)))
    exact go_ret0 C d5_309 (by decide) (by decide) ⟨rfl, b1, b3, b5, b9, b14, b18, fi, b50, b78, _, _, _, _, _, _, _, _, _, _, ⟨(((fa0.wr W77).ext E78).wr W79), fx80, fx81, fx82, fx83, fx84, fx85, fx86, ((F77.ext E78).other W79 (Or.inr (sn_63 hw).symm)), fx87, fx88, fx89, F79, fx90, fx91, fx92, fx93, fx94, fx95, fx96, fx97, (A78.other W79 (ne_i (by omega))), V1⟩, ⟨by omega, by omega, by omega, by omega, by omega, by omega, by omega, by omega, by omega, by omega⟩, (((((Keep.refl _ [b]).trans K0 (allS (Or.inl (by simp)) all0)).wr W77 (Or.inl (by simp))).ext E78).wr W79 (Or.inl (by simp)))⟩
  rcases hk with rfl | rfl | rfl | rfl | rfl
  · refine go_iconst C (pc' := 201) d5_200 (z := (0 : Int32)) (by decide) rfl ?_
    refine go_istore C (pc' := 203) d5_201 (Ls' := #[(.val (.ref b)), (.val (.ref al)), (.val (.ref ah)), (.val (.int (0 : Int32))), (.val (.int (4 : Int32))), (.val (.ref b21)), (.val (.int (1 : Int32))), (.val (.int (s3 + w3))), (.val (.int (0 : Int32))), (.val (.int w3))]) rfl rfl ?_
    refine go_iload C (pc' := 205) d5_203 rfl rfl ?_
    refine go_aloadN C (pc' := 206) d5_205 rfl rfl rfl ?_
    refine gF C (pc' := 209) (wd_64 hw) ((F49.ext E50).other W52 (Or.inr (sn_35 hw).symm)) d5_206 rfl ?_
    refine go_icmpNo C (pc' := 212) d5_209 (by decide) rfl ?_
    refine go_aloadN C (pc' := 213) d5_212 rfl rfl rfl ?_
    refine gF C (pc' := 216) (wd_62 hw) fx59 d5_213 rfl ?_
    refine go_iload C (pc' := 218) d5_216 rfl rfl ?_
    refine go_iaget C (pc' := 219) fx76 (by decide) (i := 0) (by decide) rfl d5_218 rfl ?_
    refine go_istore C (pc' := 221) d5_219 (Ls' := #[(.val (.ref b)), (.val (.ref al)), (.val (.ref ah)), (.val (.int (0 : Int32))), (.val (.int (4 : Int32))), (.val (.ref b21)), (.val (.int (1 : Int32))), (.val (.int (s3 + w3))), (.val (.int (0 : Int32))), (.val (.int (0 : Int32)))]) rfl rfl ?_
    refine go_iload C (pc' := 223) d5_221 rfl rfl ?_
    refine go_aloadN C (pc' := 224) d5_223 rfl rfl rfl ?_
    refine gF C (pc' := 227) (wd_62 hw) fx59 d5_224 rfl ?_
    refine go_iload C (pc' := 229) d5_227 rfl rfl ?_
    refine go_iconst C (pc' := 230) d5_229 (z := (1 : Int32)) (by decide) rfl ?_
    refine go_iadd C (pc' := 231) d5_230 rfl ?_
    refine go_st (st' := [(.int (1 : Int32)), (.ref fi), (.int (0 : Int32))]) (by rw [show ((0 : Int32) + (1 : Int32)) = (1 : Int32) from by decide]) ?_
    refine go_iaget C (pc' := 232) fx76 (by decide) (i := 1) (by decide) rfl d5_231 rfl ?_
    refine go_icmpNo C (pc' := 235) d5_232 (by decide) rfl ?_
    refine go_iload C (pc' := 237) d5_235 rfl rfl ?_
    refine go_iloadN C (pc' := 238) d5_237 rfl rfl ?_
    refine go_icmpYes C (pc' := 272) d5_238 (by decide) (by decide) (by decide) ?_
    refine gI C (pc' := 275) d5_272 rfl (z := (1 : Int32)) (by decide) (Ls' := #[(.val (.ref b)), (.val (.ref al)), (.val (.ref ah)), (.val (.int (0 : Int32))), (.val (.int (4 : Int32))), (.val (.ref b21)), (.val (.int (1 : Int32))), (.val (.int (s3 + w3))), (.val (.int (1 : Int32))), (.val (.int (0 : Int32)))]) rfl rfl ?_
    refine go_goto C (pc' := 203) d5_275 (by decide) (by decide) ?_
    refine go_iload C (pc' := 205) d5_203 rfl rfl ?_
    refine go_aloadN C (pc' := 206) d5_205 rfl rfl rfl ?_
    refine gF C (pc' := 209) (wd_64 hw) ((F49.ext E50).other W52 (Or.inr (sn_35 hw).symm)) d5_206 rfl ?_
    refine go_icmpYes C (pc' := 278) d5_209 (by decide) (by decide) (by decide) ?_
    exact J _ _ _ ((((fx46.wr W47).wr W49).ext E50).wr W52) fx57 fx58 fx59 ((F49.ext E50).other W52 (Or.inr (sn_35 hw).symm)) fx60 fx61 F52 fx62 fx63 fx64 fx65 fx66 fx67 fx68 fx69 fx71 fx73 fx74 fx76 (A50.other W52 (ne_i (by omega))) ((((((((((((((((((((((((((((Keep.refl _ [b]).ext E1).wr W2 (Or.inl (by simp))).ext E3).wr W4 (Or.inl (by simp))).ext E5).wr W8 (Or.inl (by simp))).ext E9).wr W12 (Or.inl (by simp))).ext E14).wr W17 (Or.inl (by simp))).ext E18).wr W20 (Or.inl (by simp))).ext E21).wr W24 (Or.inr sz_b14)).wr W26 (Or.inr sz_b18)).wr W29 (Or.inr sz_b14)).wr W31 (Or.inr sz_b18)).wr W35 (Or.inr sz_b14)).wr W37 (Or.inr sz_b18)).wr W39 (Or.inr sz_b14)).wr W41 (Or.inr sz_b18)).wr W42 (Or.inr sz_b21)).trans Kfi all0).wr W47 (Or.inl (by simp))).wr W49 (Or.inl (by simp))).ext E50).wr W52 (Or.inl (by simp)))
  · refine go_iconst C (pc' := 201) d5_200 (z := (0 : Int32)) (by decide) rfl ?_
    refine go_istore C (pc' := 203) d5_201 (Ls' := #[(.val (.ref b)), (.val (.ref al)), (.val (.ref ah)), (.val (.int (1 : Int32))), (.val (.int (4 : Int32))), (.val (.ref b21)), (.val (.int (1 : Int32))), (.val (.int (s3 + w3))), (.val (.int (0 : Int32))), (.val (.int w3))]) rfl rfl ?_
    refine go_iload C (pc' := 205) d5_203 rfl rfl ?_
    refine go_aloadN C (pc' := 206) d5_205 rfl rfl rfl ?_
    refine gF C (pc' := 209) (wd_64 hw) ((F49.ext E50).other W52 (Or.inr (sn_35 hw).symm)) d5_206 rfl ?_
    refine go_icmpNo C (pc' := 212) d5_209 (by decide) rfl ?_
    refine go_aloadN C (pc' := 213) d5_212 rfl rfl rfl ?_
    refine gF C (pc' := 216) (wd_62 hw) fx59 d5_213 rfl ?_
    refine go_iload C (pc' := 218) d5_216 rfl rfl ?_
    refine go_iaget C (pc' := 219) fx76 (by decide) (i := 0) (by decide) rfl d5_218 rfl ?_
    refine go_istore C (pc' := 221) d5_219 (Ls' := #[(.val (.ref b)), (.val (.ref al)), (.val (.ref ah)), (.val (.int (1 : Int32))), (.val (.int (4 : Int32))), (.val (.ref b21)), (.val (.int (1 : Int32))), (.val (.int (s3 + w3))), (.val (.int (0 : Int32))), (.val (.int (0 : Int32)))]) rfl rfl ?_
    refine go_iload C (pc' := 223) d5_221 rfl rfl ?_
    refine go_aloadN C (pc' := 224) d5_223 rfl rfl rfl ?_
    refine gF C (pc' := 227) (wd_62 hw) fx59 d5_224 rfl ?_
    refine go_iload C (pc' := 229) d5_227 rfl rfl ?_
    refine go_iconst C (pc' := 230) d5_229 (z := (1 : Int32)) (by decide) rfl ?_
    refine go_iadd C (pc' := 231) d5_230 rfl ?_
    refine go_st (st' := [(.int (1 : Int32)), (.ref fi), (.int (0 : Int32))]) (by rw [show ((0 : Int32) + (1 : Int32)) = (1 : Int32) from by decide]) ?_
    refine go_iaget C (pc' := 232) fx76 (by decide) (i := 1) (by decide) rfl d5_231 rfl ?_
    refine go_icmpNo C (pc' := 235) d5_232 (by decide) rfl ?_
    refine go_iload C (pc' := 237) d5_235 rfl rfl ?_
    refine go_iloadN C (pc' := 238) d5_237 rfl rfl ?_
    refine go_icmpNo C (pc' := 241) d5_238 (by decide) rfl ?_
    refine go_aloadN C (pc' := 242) d5_241 rfl rfl rfl ?_
    refine gF C (pc' := 245) (wd_66 hw) F52 d5_242 rfl ?_
    refine go_iload C (pc' := 247) d5_245 rfl rfl ?_
    refine go_dup2 C (pc' := 248) d5_247 rfl rfl rfl ?_
    refine go_laget C (pc' := 249) (A50.other W52 (ne_i (by omega))) (by decide) (i := 0) (by decide) rfl d5_248 rfl ?_
    refine go_aloadN C (pc' := 250) d5_249 rfl rfl rfl ?_
    refine gF C (pc' := 253) (wd_42 hw) fx61 d5_250 rfl ?_
    refine go_iload C (pc' := 255) d5_253 rfl rfl ?_
    refine go_laget C (pc' := 256) fx74 (by decide) (i := 0) (by decide) rfl d5_255 rfl ?_
    refine go_aloadN C (pc' := 257) d5_256 rfl rfl rfl ?_
    refine gF C (pc' := 260) (wd_40 hw) fx60 d5_257 rfl ?_
    refine go_iload C (pc' := 262) d5_260 rfl rfl ?_
    refine go_iaget C (pc' := 263) fx73 (by decide) (i := 0) (by decide) rfl d5_262 rfl ?_
    refine go_lshl C (pc' := 264) d5_263 rfl ?_
    refine go_lor C (pc' := 265) d5_264 rfl ?_
    refine go_laset C (pc' := 266) (A50.other W52 (ne_i (by omega))) (by decide) (i := 0) (by decide) (by simp) (vs' := [(.long ((0 : Int64) ||| (m0 <<< ((0 : Int32) &&& 0x3f).toInt64)))]) rfl d5_265 rfl n50 ?_
    intro h98 W98 A98
    refine go_old fun O98 => ?_
    refine gI C (pc' := 269) d5_266 rfl (z := (1 : Int32)) (by decide) (Ls' := #[(.val (.ref b)), (.val (.ref al)), (.val (.ref ah)), (.val (.int (1 : Int32))), (.val (.int (4 : Int32))), (.val (.ref b21)), (.val (.int (1 : Int32))), (.val (.int (s3 + w3))), (.val (.int (0 : Int32))), (.val (.int (1 : Int32)))]) rfl rfl ?_
    refine go_goto C (pc' := 221) d5_269 (by decide) (by decide) ?_
    refine go_iload C (pc' := 223) d5_221 rfl rfl ?_
    refine go_aloadN C (pc' := 224) d5_223 rfl rfl rfl ?_
    refine gF C (pc' := 227) (wd_62 hw) (fx59.other W98 (Or.inl (ne_i (by omega)))) d5_224 rfl ?_
    refine go_iload C (pc' := 229) d5_227 rfl rfl ?_
    refine go_iconst C (pc' := 230) d5_229 (z := (1 : Int32)) (by decide) rfl ?_
    refine go_iadd C (pc' := 231) d5_230 rfl ?_
    refine go_st (st' := [(.int (1 : Int32)), (.ref fi), (.int (1 : Int32))]) (by rw [show ((0 : Int32) + (1 : Int32)) = (1 : Int32) from by decide]) ?_
    refine go_iaget C (pc' := 232) (fx76.other W98 (ne_i (by omega))) (by decide) (i := 1) (by decide) rfl d5_231 rfl ?_
    refine go_icmpNo C (pc' := 235) d5_232 (by decide) rfl ?_
    refine go_iload C (pc' := 237) d5_235 rfl rfl ?_
    refine go_iloadN C (pc' := 238) d5_237 rfl rfl ?_
    refine go_icmpYes C (pc' := 272) d5_238 (by decide) (by decide) (by decide) ?_
    refine gI C (pc' := 275) d5_272 rfl (z := (1 : Int32)) (by decide) (Ls' := #[(.val (.ref b)), (.val (.ref al)), (.val (.ref ah)), (.val (.int (1 : Int32))), (.val (.int (4 : Int32))), (.val (.ref b21)), (.val (.int (1 : Int32))), (.val (.int (s3 + w3))), (.val (.int (1 : Int32))), (.val (.int (1 : Int32)))]) rfl rfl ?_
    refine go_goto C (pc' := 203) d5_275 (by decide) (by decide) ?_
    refine go_iload C (pc' := 205) d5_203 rfl rfl ?_
    refine go_aloadN C (pc' := 206) d5_205 rfl rfl rfl ?_
    have fx99 := (((F49.ext E50).other W52 (Or.inr (sn_35 hw).symm)).other W98 (Or.inl (ne_i (by omega))))
    refine gF C (pc' := 209) (wd_64 hw) fx99 d5_206 rfl ?_
    refine go_icmpYes C (pc' := 278) d5_209 (by decide) (by decide) (by decide) ?_
    exact J _ _ _ (((((fx46.wr W47).wr W49).ext E50).wr W52).wr W98) (fx57.other W98 (Or.inl (ne_i (by omega)))) (fx58.other W98 (Or.inl (ne_i (by omega)))) (fx59.other W98 (Or.inl (ne_i (by omega)))) fx99 (fx60.other W98 (Or.inl (ne_i (by omega)))) (fx61.other W98 (Or.inl (ne_i (by omega)))) (F52.other W98 (Or.inl (ne_i (by omega)))) (fx62.other W98 (Or.inl (ne_i (by omega)))) (fx63.other W98 (Or.inl (ne_i (by omega)))) (fx64.other W98 (Or.inl (ne_i (by omega)))) (fx65.other W98 (Or.inl (ne_i (by omega)))) (fx66.other W98 (Or.inl (ne_i (by omega)))) (fx67.other W98 (ne_i (by omega))) (fx68.other W98 (ne_i (by omega))) (fx69.other W98 (ne_i (by omega))) (fx71.other W98 (ne_i (by omega))) (fx73.other W98 (ne_i (by omega))) (fx74.other W98 (ne_i (by omega))) (fx76.other W98 (ne_i (by omega))) A98 (((((((((((((((((((((((((((((Keep.refl _ [b]).ext E1).wr W2 (Or.inl (by simp))).ext E3).wr W4 (Or.inl (by simp))).ext E5).wr W8 (Or.inl (by simp))).ext E9).wr W12 (Or.inl (by simp))).ext E14).wr W17 (Or.inl (by simp))).ext E18).wr W20 (Or.inl (by simp))).ext E21).wr W24 (Or.inr sz_b14)).wr W26 (Or.inr sz_b18)).wr W29 (Or.inr sz_b14)).wr W31 (Or.inr sz_b18)).wr W35 (Or.inr sz_b14)).wr W37 (Or.inr sz_b18)).wr W39 (Or.inr sz_b14)).wr W41 (Or.inr sz_b18)).wr W42 (Or.inr sz_b21)).trans Kfi all0).wr W47 (Or.inl (by simp))).wr W49 (Or.inl (by simp))).ext E50).wr W52 (Or.inl (by simp))).wr W98 (Or.inr sz_b50))
  · refine go_iconst C (pc' := 201) d5_200 (z := (0 : Int32)) (by decide) rfl ?_
    refine go_istore C (pc' := 203) d5_201 (Ls' := #[(.val (.ref b)), (.val (.ref al)), (.val (.ref ah)), (.val (.int (2 : Int32))), (.val (.int (4 : Int32))), (.val (.ref b21)), (.val (.int (1 : Int32))), (.val (.int (s3 + w3))), (.val (.int (0 : Int32))), (.val (.int w3))]) rfl rfl ?_
    refine go_iload C (pc' := 205) d5_203 rfl rfl ?_
    refine go_aloadN C (pc' := 206) d5_205 rfl rfl rfl ?_
    refine gF C (pc' := 209) (wd_64 hw) ((F49.ext E50).other W52 (Or.inr (sn_35 hw).symm)) d5_206 rfl ?_
    refine go_icmpNo C (pc' := 212) d5_209 (by decide) rfl ?_
    refine go_aloadN C (pc' := 213) d5_212 rfl rfl rfl ?_
    refine gF C (pc' := 216) (wd_62 hw) fx59 d5_213 rfl ?_
    refine go_iload C (pc' := 218) d5_216 rfl rfl ?_
    refine go_iaget C (pc' := 219) fx76 (by decide) (i := 0) (by decide) rfl d5_218 rfl ?_
    refine go_istore C (pc' := 221) d5_219 (Ls' := #[(.val (.ref b)), (.val (.ref al)), (.val (.ref ah)), (.val (.int (2 : Int32))), (.val (.int (4 : Int32))), (.val (.ref b21)), (.val (.int (1 : Int32))), (.val (.int (s3 + w3))), (.val (.int (0 : Int32))), (.val (.int (0 : Int32)))]) rfl rfl ?_
    refine go_iload C (pc' := 223) d5_221 rfl rfl ?_
    refine go_aloadN C (pc' := 224) d5_223 rfl rfl rfl ?_
    refine gF C (pc' := 227) (wd_62 hw) fx59 d5_224 rfl ?_
    refine go_iload C (pc' := 229) d5_227 rfl rfl ?_
    refine go_iconst C (pc' := 230) d5_229 (z := (1 : Int32)) (by decide) rfl ?_
    refine go_iadd C (pc' := 231) d5_230 rfl ?_
    refine go_st (st' := [(.int (1 : Int32)), (.ref fi), (.int (0 : Int32))]) (by rw [show ((0 : Int32) + (1 : Int32)) = (1 : Int32) from by decide]) ?_
    refine go_iaget C (pc' := 232) fx76 (by decide) (i := 1) (by decide) rfl d5_231 rfl ?_
    refine go_icmpNo C (pc' := 235) d5_232 (by decide) rfl ?_
    refine go_iload C (pc' := 237) d5_235 rfl rfl ?_
    refine go_iloadN C (pc' := 238) d5_237 rfl rfl ?_
    refine go_icmpNo C (pc' := 241) d5_238 (by decide) rfl ?_
    refine go_aloadN C (pc' := 242) d5_241 rfl rfl rfl ?_
    refine gF C (pc' := 245) (wd_66 hw) F52 d5_242 rfl ?_
    refine go_iload C (pc' := 247) d5_245 rfl rfl ?_
    refine go_dup2 C (pc' := 248) d5_247 rfl rfl rfl ?_
    refine go_laget C (pc' := 249) (A50.other W52 (ne_i (by omega))) (by decide) (i := 0) (by decide) rfl d5_248 rfl ?_
    refine go_aloadN C (pc' := 250) d5_249 rfl rfl rfl ?_
    refine gF C (pc' := 253) (wd_42 hw) fx61 d5_250 rfl ?_
    refine go_iload C (pc' := 255) d5_253 rfl rfl ?_
    refine go_laget C (pc' := 256) fx74 (by decide) (i := 0) (by decide) rfl d5_255 rfl ?_
    refine go_aloadN C (pc' := 257) d5_256 rfl rfl rfl ?_
    refine gF C (pc' := 260) (wd_40 hw) fx60 d5_257 rfl ?_
    refine go_iload C (pc' := 262) d5_260 rfl rfl ?_
    refine go_iaget C (pc' := 263) fx73 (by decide) (i := 0) (by decide) rfl d5_262 rfl ?_
    refine go_lshl C (pc' := 264) d5_263 rfl ?_
    refine go_lor C (pc' := 265) d5_264 rfl ?_
    refine go_laset C (pc' := 266) (A50.other W52 (ne_i (by omega))) (by decide) (i := 0) (by decide) (by simp) (vs' := [(.long ((0 : Int64) ||| (m0 <<< ((0 : Int32) &&& 0x3f).toInt64)))]) rfl d5_265 rfl n50 ?_
    intro h100 W100 A100
    refine go_old fun O100 => ?_
    refine gI C (pc' := 269) d5_266 rfl (z := (1 : Int32)) (by decide) (Ls' := #[(.val (.ref b)), (.val (.ref al)), (.val (.ref ah)), (.val (.int (2 : Int32))), (.val (.int (4 : Int32))), (.val (.ref b21)), (.val (.int (1 : Int32))), (.val (.int (s3 + w3))), (.val (.int (0 : Int32))), (.val (.int (1 : Int32)))]) rfl rfl ?_
    refine go_goto C (pc' := 221) d5_269 (by decide) (by decide) ?_
    refine go_iload C (pc' := 223) d5_221 rfl rfl ?_
    refine go_aloadN C (pc' := 224) d5_223 rfl rfl rfl ?_
    refine gF C (pc' := 227) (wd_62 hw) (fx59.other W100 (Or.inl (ne_i (by omega)))) d5_224 rfl ?_
    refine go_iload C (pc' := 229) d5_227 rfl rfl ?_
    refine go_iconst C (pc' := 230) d5_229 (z := (1 : Int32)) (by decide) rfl ?_
    refine go_iadd C (pc' := 231) d5_230 rfl ?_
    refine go_st (st' := [(.int (1 : Int32)), (.ref fi), (.int (1 : Int32))]) (by rw [show ((0 : Int32) + (1 : Int32)) = (1 : Int32) from by decide]) ?_
    refine go_iaget C (pc' := 232) (fx76.other W100 (ne_i (by omega))) (by decide) (i := 1) (by decide) rfl d5_231 rfl ?_
    refine go_icmpNo C (pc' := 235) d5_232 (by decide) rfl ?_
    refine go_iload C (pc' := 237) d5_235 rfl rfl ?_
    refine go_iloadN C (pc' := 238) d5_237 rfl rfl ?_
    refine go_icmpNo C (pc' := 241) d5_238 (by decide) rfl ?_
    refine go_aloadN C (pc' := 242) d5_241 rfl rfl rfl ?_
    refine gF C (pc' := 245) (wd_66 hw) (F52.other W100 (Or.inl (ne_i (by omega)))) d5_242 rfl ?_
    refine go_iload C (pc' := 247) d5_245 rfl rfl ?_
    refine go_dup2 C (pc' := 248) d5_247 rfl rfl rfl ?_
    refine go_laget C (pc' := 249) A100 (by decide) (i := 0) (by decide) rfl d5_248 rfl ?_
    refine go_aloadN C (pc' := 250) d5_249 rfl rfl rfl ?_
    refine gF C (pc' := 253) (wd_42 hw) (fx61.other W100 (Or.inl (ne_i (by omega)))) d5_250 rfl ?_
    refine go_iload C (pc' := 255) d5_253 rfl rfl ?_
    refine go_laget C (pc' := 256) (fx74.other W100 (ne_i (by omega))) (by decide) (i := 1) (by decide) rfl d5_255 rfl ?_
    refine go_aloadN C (pc' := 257) d5_256 rfl rfl rfl ?_
    refine gF C (pc' := 260) (wd_40 hw) (fx60.other W100 (Or.inl (ne_i (by omega)))) d5_257 rfl ?_
    refine go_iload C (pc' := 262) d5_260 rfl rfl ?_
    refine go_iaget C (pc' := 263) (fx73.other W100 (ne_i (by omega))) (by decide) (i := 1) (by decide) rfl d5_262 rfl ?_
    refine go_lshl C (pc' := 264) d5_263 rfl ?_
    refine go_lor C (pc' := 265) d5_264 rfl ?_
    refine go_laset C (pc' := 266) A100 (by decide) (i := 0) (by decide) (by simp) (vs' := [(.long (((0 : Int64) ||| (m0 <<< ((0 : Int32) &&& 0x3f).toInt64)) ||| (m1 <<< (s1 &&& 0x3f).toInt64)))]) rfl d5_265 rfl n50 ?_
    intro h101 W101 A101
    refine go_old fun O101 => ?_
    refine gI C (pc' := 269) d5_266 rfl (z := (2 : Int32)) (by decide) (Ls' := #[(.val (.ref b)), (.val (.ref al)), (.val (.ref ah)), (.val (.int (2 : Int32))), (.val (.int (4 : Int32))), (.val (.ref b21)), (.val (.int (1 : Int32))), (.val (.int (s3 + w3))), (.val (.int (0 : Int32))), (.val (.int (2 : Int32)))]) rfl rfl ?_
    refine go_goto C (pc' := 221) d5_269 (by decide) (by decide) ?_
    refine go_iload C (pc' := 223) d5_221 rfl rfl ?_
    refine go_aloadN C (pc' := 224) d5_223 rfl rfl rfl ?_
    have fx102 := ((fx59.other W100 (Or.inl (ne_i (by omega)))).other W101 (Or.inl (ne_i (by omega))))
    refine gF C (pc' := 227) (wd_62 hw) fx102 d5_224 rfl ?_
    refine go_iload C (pc' := 229) d5_227 rfl rfl ?_
    refine go_iconst C (pc' := 230) d5_229 (z := (1 : Int32)) (by decide) rfl ?_
    refine go_iadd C (pc' := 231) d5_230 rfl ?_
    refine go_st (st' := [(.int (1 : Int32)), (.ref fi), (.int (2 : Int32))]) (by rw [show ((0 : Int32) + (1 : Int32)) = (1 : Int32) from by decide]) ?_
    refine go_iaget C (pc' := 232) ((fx76.other W100 (ne_i (by omega))).other W101 (ne_i (by omega))) (by decide) (i := 1) (by decide) rfl d5_231 rfl ?_
    refine go_icmpNo C (pc' := 235) d5_232 (by decide) rfl ?_
    refine go_iload C (pc' := 237) d5_235 rfl rfl ?_
    refine go_iloadN C (pc' := 238) d5_237 rfl rfl ?_
    refine go_icmpYes C (pc' := 272) d5_238 (by decide) (by decide) (by decide) ?_
    refine gI C (pc' := 275) d5_272 rfl (z := (1 : Int32)) (by decide) (Ls' := #[(.val (.ref b)), (.val (.ref al)), (.val (.ref ah)), (.val (.int (2 : Int32))), (.val (.int (4 : Int32))), (.val (.ref b21)), (.val (.int (1 : Int32))), (.val (.int (s3 + w3))), (.val (.int (1 : Int32))), (.val (.int (2 : Int32)))]) rfl rfl ?_
    refine go_goto C (pc' := 203) d5_275 (by decide) (by decide) ?_
    refine go_iload C (pc' := 205) d5_203 rfl rfl ?_
    refine go_aloadN C (pc' := 206) d5_205 rfl rfl rfl ?_
    have fx103 := ((((F49.ext E50).other W52 (Or.inr (sn_35 hw).symm)).other W100 (Or.inl (ne_i (by omega)))).other W101 (Or.inl (ne_i (by omega))))
    refine gF C (pc' := 209) (wd_64 hw) fx103 d5_206 rfl ?_
    refine go_icmpYes C (pc' := 278) d5_209 (by decide) (by decide) (by decide) ?_
    have fx104 := ((fx57.other W100 (Or.inl (ne_i (by omega)))).other W101 (Or.inl (ne_i (by omega))))
    have fx105 := ((fx58.other W100 (Or.inl (ne_i (by omega)))).other W101 (Or.inl (ne_i (by omega))))
    have fx106 := ((fx60.other W100 (Or.inl (ne_i (by omega)))).other W101 (Or.inl (ne_i (by omega))))
    have fx107 := ((fx61.other W100 (Or.inl (ne_i (by omega)))).other W101 (Or.inl (ne_i (by omega))))
    have fx108 := ((F52.other W100 (Or.inl (ne_i (by omega)))).other W101 (Or.inl (ne_i (by omega))))
    have fx109 := ((fx62.other W100 (Or.inl (ne_i (by omega)))).other W101 (Or.inl (ne_i (by omega))))
    have fx110 := ((fx63.other W100 (Or.inl (ne_i (by omega)))).other W101 (Or.inl (ne_i (by omega))))
    have fx111 := ((fx64.other W100 (Or.inl (ne_i (by omega)))).other W101 (Or.inl (ne_i (by omega))))
    have fx112 := ((fx65.other W100 (Or.inl (ne_i (by omega)))).other W101 (Or.inl (ne_i (by omega))))
    have fx113 := ((fx66.other W100 (Or.inl (ne_i (by omega)))).other W101 (Or.inl (ne_i (by omega))))
    exact J _ _ _ ((((((fx46.wr W47).wr W49).ext E50).wr W52).wr W100).wr W101) fx104 fx105 fx102 fx103 fx106 fx107 fx108 fx109 fx110 fx111 fx112 fx113 ((fx67.other W100 (ne_i (by omega))).other W101 (ne_i (by omega))) ((fx68.other W100 (ne_i (by omega))).other W101 (ne_i (by omega))) ((fx69.other W100 (ne_i (by omega))).other W101 (ne_i (by omega))) ((fx71.other W100 (ne_i (by omega))).other W101 (ne_i (by omega))) ((fx73.other W100 (ne_i (by omega))).other W101 (ne_i (by omega))) ((fx74.other W100 (ne_i (by omega))).other W101 (ne_i (by omega))) ((fx76.other W100 (ne_i (by omega))).other W101 (ne_i (by omega))) A101 ((((((((((((((((((((((((((((((Keep.refl _ [b]).ext E1).wr W2 (Or.inl (by simp))).ext E3).wr W4 (Or.inl (by simp))).ext E5).wr W8 (Or.inl (by simp))).ext E9).wr W12 (Or.inl (by simp))).ext E14).wr W17 (Or.inl (by simp))).ext E18).wr W20 (Or.inl (by simp))).ext E21).wr W24 (Or.inr sz_b14)).wr W26 (Or.inr sz_b18)).wr W29 (Or.inr sz_b14)).wr W31 (Or.inr sz_b18)).wr W35 (Or.inr sz_b14)).wr W37 (Or.inr sz_b18)).wr W39 (Or.inr sz_b14)).wr W41 (Or.inr sz_b18)).wr W42 (Or.inr sz_b21)).trans Kfi all0).wr W47 (Or.inl (by simp))).wr W49 (Or.inl (by simp))).ext E50).wr W52 (Or.inl (by simp))).wr W100 (Or.inr sz_b50)).wr W101 (Or.inr sz_b50))
  · refine go_iconst C (pc' := 201) d5_200 (z := (0 : Int32)) (by decide) rfl ?_
    refine go_istore C (pc' := 203) d5_201 (Ls' := #[(.val (.ref b)), (.val (.ref al)), (.val (.ref ah)), (.val (.int (3 : Int32))), (.val (.int (4 : Int32))), (.val (.ref b21)), (.val (.int (1 : Int32))), (.val (.int (s3 + w3))), (.val (.int (0 : Int32))), (.val (.int w3))]) rfl rfl ?_
    refine go_iload C (pc' := 205) d5_203 rfl rfl ?_
    refine go_aloadN C (pc' := 206) d5_205 rfl rfl rfl ?_
    refine gF C (pc' := 209) (wd_64 hw) ((F49.ext E50).other W52 (Or.inr (sn_35 hw).symm)) d5_206 rfl ?_
    refine go_icmpNo C (pc' := 212) d5_209 (by decide) rfl ?_
    refine go_aloadN C (pc' := 213) d5_212 rfl rfl rfl ?_
    refine gF C (pc' := 216) (wd_62 hw) fx59 d5_213 rfl ?_
    refine go_iload C (pc' := 218) d5_216 rfl rfl ?_
    refine go_iaget C (pc' := 219) fx76 (by decide) (i := 0) (by decide) rfl d5_218 rfl ?_
    refine go_istore C (pc' := 221) d5_219 (Ls' := #[(.val (.ref b)), (.val (.ref al)), (.val (.ref ah)), (.val (.int (3 : Int32))), (.val (.int (4 : Int32))), (.val (.ref b21)), (.val (.int (1 : Int32))), (.val (.int (s3 + w3))), (.val (.int (0 : Int32))), (.val (.int (0 : Int32)))]) rfl rfl ?_
    refine go_iload C (pc' := 223) d5_221 rfl rfl ?_
    refine go_aloadN C (pc' := 224) d5_223 rfl rfl rfl ?_
    refine gF C (pc' := 227) (wd_62 hw) fx59 d5_224 rfl ?_
    refine go_iload C (pc' := 229) d5_227 rfl rfl ?_
    refine go_iconst C (pc' := 230) d5_229 (z := (1 : Int32)) (by decide) rfl ?_
    refine go_iadd C (pc' := 231) d5_230 rfl ?_
    refine go_st (st' := [(.int (1 : Int32)), (.ref fi), (.int (0 : Int32))]) (by rw [show ((0 : Int32) + (1 : Int32)) = (1 : Int32) from by decide]) ?_
    refine go_iaget C (pc' := 232) fx76 (by decide) (i := 1) (by decide) rfl d5_231 rfl ?_
    refine go_icmpNo C (pc' := 235) d5_232 (by decide) rfl ?_
    refine go_iload C (pc' := 237) d5_235 rfl rfl ?_
    refine go_iloadN C (pc' := 238) d5_237 rfl rfl ?_
    refine go_icmpNo C (pc' := 241) d5_238 (by decide) rfl ?_
    refine go_aloadN C (pc' := 242) d5_241 rfl rfl rfl ?_
    refine gF C (pc' := 245) (wd_66 hw) F52 d5_242 rfl ?_
    refine go_iload C (pc' := 247) d5_245 rfl rfl ?_
    refine go_dup2 C (pc' := 248) d5_247 rfl rfl rfl ?_
    refine go_laget C (pc' := 249) (A50.other W52 (ne_i (by omega))) (by decide) (i := 0) (by decide) rfl d5_248 rfl ?_
    refine go_aloadN C (pc' := 250) d5_249 rfl rfl rfl ?_
    refine gF C (pc' := 253) (wd_42 hw) fx61 d5_250 rfl ?_
    refine go_iload C (pc' := 255) d5_253 rfl rfl ?_
    refine go_laget C (pc' := 256) fx74 (by decide) (i := 0) (by decide) rfl d5_255 rfl ?_
    refine go_aloadN C (pc' := 257) d5_256 rfl rfl rfl ?_
    refine gF C (pc' := 260) (wd_40 hw) fx60 d5_257 rfl ?_
    refine go_iload C (pc' := 262) d5_260 rfl rfl ?_
    refine go_iaget C (pc' := 263) fx73 (by decide) (i := 0) (by decide) rfl d5_262 rfl ?_
    refine go_lshl C (pc' := 264) d5_263 rfl ?_
    refine go_lor C (pc' := 265) d5_264 rfl ?_
    refine go_laset C (pc' := 266) (A50.other W52 (ne_i (by omega))) (by decide) (i := 0) (by decide) (by simp) (vs' := [(.long ((0 : Int64) ||| (m0 <<< ((0 : Int32) &&& 0x3f).toInt64)))]) rfl d5_265 rfl n50 ?_
    intro h114 W114 A114
    refine go_old fun O114 => ?_
    refine gI C (pc' := 269) d5_266 rfl (z := (1 : Int32)) (by decide) (Ls' := #[(.val (.ref b)), (.val (.ref al)), (.val (.ref ah)), (.val (.int (3 : Int32))), (.val (.int (4 : Int32))), (.val (.ref b21)), (.val (.int (1 : Int32))), (.val (.int (s3 + w3))), (.val (.int (0 : Int32))), (.val (.int (1 : Int32)))]) rfl rfl ?_
    refine go_goto C (pc' := 221) d5_269 (by decide) (by decide) ?_
    refine go_iload C (pc' := 223) d5_221 rfl rfl ?_
    refine go_aloadN C (pc' := 224) d5_223 rfl rfl rfl ?_
    refine gF C (pc' := 227) (wd_62 hw) (fx59.other W114 (Or.inl (ne_i (by omega)))) d5_224 rfl ?_
    refine go_iload C (pc' := 229) d5_227 rfl rfl ?_
    refine go_iconst C (pc' := 230) d5_229 (z := (1 : Int32)) (by decide) rfl ?_
    refine go_iadd C (pc' := 231) d5_230 rfl ?_
    refine go_st (st' := [(.int (1 : Int32)), (.ref fi), (.int (1 : Int32))]) (by rw [show ((0 : Int32) + (1 : Int32)) = (1 : Int32) from by decide]) ?_
    refine go_iaget C (pc' := 232) (fx76.other W114 (ne_i (by omega))) (by decide) (i := 1) (by decide) rfl d5_231 rfl ?_
    refine go_icmpNo C (pc' := 235) d5_232 (by decide) rfl ?_
    refine go_iload C (pc' := 237) d5_235 rfl rfl ?_
    refine go_iloadN C (pc' := 238) d5_237 rfl rfl ?_
    refine go_icmpNo C (pc' := 241) d5_238 (by decide) rfl ?_
    refine go_aloadN C (pc' := 242) d5_241 rfl rfl rfl ?_
    refine gF C (pc' := 245) (wd_66 hw) (F52.other W114 (Or.inl (ne_i (by omega)))) d5_242 rfl ?_
    refine go_iload C (pc' := 247) d5_245 rfl rfl ?_
    refine go_dup2 C (pc' := 248) d5_247 rfl rfl rfl ?_
    refine go_laget C (pc' := 249) A114 (by decide) (i := 0) (by decide) rfl d5_248 rfl ?_
    refine go_aloadN C (pc' := 250) d5_249 rfl rfl rfl ?_
    refine gF C (pc' := 253) (wd_42 hw) (fx61.other W114 (Or.inl (ne_i (by omega)))) d5_250 rfl ?_
    refine go_iload C (pc' := 255) d5_253 rfl rfl ?_
    refine go_laget C (pc' := 256) (fx74.other W114 (ne_i (by omega))) (by decide) (i := 1) (by decide) rfl d5_255 rfl ?_
    refine go_aloadN C (pc' := 257) d5_256 rfl rfl rfl ?_
    refine gF C (pc' := 260) (wd_40 hw) (fx60.other W114 (Or.inl (ne_i (by omega)))) d5_257 rfl ?_
    refine go_iload C (pc' := 262) d5_260 rfl rfl ?_
    refine go_iaget C (pc' := 263) (fx73.other W114 (ne_i (by omega))) (by decide) (i := 1) (by decide) rfl d5_262 rfl ?_
    refine go_lshl C (pc' := 264) d5_263 rfl ?_
    refine go_lor C (pc' := 265) d5_264 rfl ?_
    refine go_laset C (pc' := 266) A114 (by decide) (i := 0) (by decide) (by simp) (vs' := [(.long (((0 : Int64) ||| (m0 <<< ((0 : Int32) &&& 0x3f).toInt64)) ||| (m1 <<< (s1 &&& 0x3f).toInt64)))]) rfl d5_265 rfl n50 ?_
    intro h115 W115 A115
    refine go_old fun O115 => ?_
    refine gI C (pc' := 269) d5_266 rfl (z := (2 : Int32)) (by decide) (Ls' := #[(.val (.ref b)), (.val (.ref al)), (.val (.ref ah)), (.val (.int (3 : Int32))), (.val (.int (4 : Int32))), (.val (.ref b21)), (.val (.int (1 : Int32))), (.val (.int (s3 + w3))), (.val (.int (0 : Int32))), (.val (.int (2 : Int32)))]) rfl rfl ?_
    refine go_goto C (pc' := 221) d5_269 (by decide) (by decide) ?_
    refine go_iload C (pc' := 223) d5_221 rfl rfl ?_
    refine go_aloadN C (pc' := 224) d5_223 rfl rfl rfl ?_
    have fx116 := ((fx59.other W114 (Or.inl (ne_i (by omega)))).other W115 (Or.inl (ne_i (by omega))))
    refine gF C (pc' := 227) (wd_62 hw) fx116 d5_224 rfl ?_
    refine go_iload C (pc' := 229) d5_227 rfl rfl ?_
    refine go_iconst C (pc' := 230) d5_229 (z := (1 : Int32)) (by decide) rfl ?_
    refine go_iadd C (pc' := 231) d5_230 rfl ?_
    refine go_st (st' := [(.int (1 : Int32)), (.ref fi), (.int (2 : Int32))]) (by rw [show ((0 : Int32) + (1 : Int32)) = (1 : Int32) from by decide]) ?_
    refine go_iaget C (pc' := 232) ((fx76.other W114 (ne_i (by omega))).other W115 (ne_i (by omega))) (by decide) (i := 1) (by decide) rfl d5_231 rfl ?_
    refine go_icmpNo C (pc' := 235) d5_232 (by decide) rfl ?_
    refine go_iload C (pc' := 237) d5_235 rfl rfl ?_
    refine go_iloadN C (pc' := 238) d5_237 rfl rfl ?_
    refine go_icmpNo C (pc' := 241) d5_238 (by decide) rfl ?_
    refine go_aloadN C (pc' := 242) d5_241 rfl rfl rfl ?_
    have fx117 := ((F52.other W114 (Or.inl (ne_i (by omega)))).other W115 (Or.inl (ne_i (by omega))))
    refine gF C (pc' := 245) (wd_66 hw) fx117 d5_242 rfl ?_
    refine go_iload C (pc' := 247) d5_245 rfl rfl ?_
    refine go_dup2 C (pc' := 248) d5_247 rfl rfl rfl ?_
    refine go_laget C (pc' := 249) A115 (by decide) (i := 0) (by decide) rfl d5_248 rfl ?_
    refine go_aloadN C (pc' := 250) d5_249 rfl rfl rfl ?_
    have fx118 := ((fx61.other W114 (Or.inl (ne_i (by omega)))).other W115 (Or.inl (ne_i (by omega))))
    refine gF C (pc' := 253) (wd_42 hw) fx118 d5_250 rfl ?_
    refine go_iload C (pc' := 255) d5_253 rfl rfl ?_
    refine go_laget C (pc' := 256) ((fx74.other W114 (ne_i (by omega))).other W115 (ne_i (by omega))) (by decide) (i := 2) (by decide) rfl d5_255 rfl ?_
    refine go_aloadN C (pc' := 257) d5_256 rfl rfl rfl ?_
    have fx119 := ((fx60.other W114 (Or.inl (ne_i (by omega)))).other W115 (Or.inl (ne_i (by omega))))
    refine gF C (pc' := 260) (wd_40 hw) fx119 d5_257 rfl ?_
    refine go_iload C (pc' := 262) d5_260 rfl rfl ?_
    refine go_iaget C (pc' := 263) ((fx73.other W114 (ne_i (by omega))).other W115 (ne_i (by omega))) (by decide) (i := 2) (by decide) rfl d5_262 rfl ?_
    refine go_lshl C (pc' := 264) d5_263 rfl ?_
    refine go_lor C (pc' := 265) d5_264 rfl ?_
    refine go_laset C (pc' := 266) A115 (by decide) (i := 0) (by decide) (by simp) (vs' := [(.long ((((0 : Int64) ||| (m0 <<< ((0 : Int32) &&& 0x3f).toInt64)) ||| (m1 <<< (s1 &&& 0x3f).toInt64)) ||| (m2 <<< (s2 &&& 0x3f).toInt64)))]) rfl d5_265 rfl n50 ?_
    intro h120 W120 A120
    refine go_old fun O120 => ?_
    refine gI C (pc' := 269) d5_266 rfl (z := (3 : Int32)) (by decide) (Ls' := #[(.val (.ref b)), (.val (.ref al)), (.val (.ref ah)), (.val (.int (3 : Int32))), (.val (.int (4 : Int32))), (.val (.ref b21)), (.val (.int (1 : Int32))), (.val (.int (s3 + w3))), (.val (.int (0 : Int32))), (.val (.int (3 : Int32)))]) rfl rfl ?_
    refine go_goto C (pc' := 221) d5_269 (by decide) (by decide) ?_
    refine go_iload C (pc' := 223) d5_221 rfl rfl ?_
    refine go_aloadN C (pc' := 224) d5_223 rfl rfl rfl ?_
    refine gF C (pc' := 227) (wd_62 hw) (fx116.other W120 (Or.inl (ne_i (by omega)))) d5_224 rfl ?_
    refine go_iload C (pc' := 229) d5_227 rfl rfl ?_
    refine go_iconst C (pc' := 230) d5_229 (z := (1 : Int32)) (by decide) rfl ?_
    refine go_iadd C (pc' := 231) d5_230 rfl ?_
    refine go_st (st' := [(.int (1 : Int32)), (.ref fi), (.int (3 : Int32))]) (by rw [show ((0 : Int32) + (1 : Int32)) = (1 : Int32) from by decide]) ?_
    have fx121 := (((fx76.other W114 (ne_i (by omega))).other W115 (ne_i (by omega))).other W120 (ne_i (by omega)))
    refine go_iaget C (pc' := 232) fx121 (by decide) (i := 1) (by decide) rfl d5_231 rfl ?_
    refine go_icmpNo C (pc' := 235) d5_232 (by decide) rfl ?_
    refine go_iload C (pc' := 237) d5_235 rfl rfl ?_
    refine go_iloadN C (pc' := 238) d5_237 rfl rfl ?_
    refine go_icmpYes C (pc' := 272) d5_238 (by decide) (by decide) (by decide) ?_
    refine gI C (pc' := 275) d5_272 rfl (z := (1 : Int32)) (by decide) (Ls' := #[(.val (.ref b)), (.val (.ref al)), (.val (.ref ah)), (.val (.int (3 : Int32))), (.val (.int (4 : Int32))), (.val (.ref b21)), (.val (.int (1 : Int32))), (.val (.int (s3 + w3))), (.val (.int (1 : Int32))), (.val (.int (3 : Int32)))]) rfl rfl ?_
    refine go_goto C (pc' := 203) d5_275 (by decide) (by decide) ?_
    refine go_iload C (pc' := 205) d5_203 rfl rfl ?_
    refine go_aloadN C (pc' := 206) d5_205 rfl rfl rfl ?_
    have fx122 := (((((F49.ext E50).other W52 (Or.inr (sn_35 hw).symm)).other W114 (Or.inl (ne_i (by omega)))).other W115 (Or.inl (ne_i (by omega)))).other W120 (Or.inl (ne_i (by omega))))
    refine gF C (pc' := 209) (wd_64 hw) fx122 d5_206 rfl ?_
    refine go_icmpYes C (pc' := 278) d5_209 (by decide) (by decide) (by decide) ?_
    have fx123 := (((((((fx46.wr W47).wr W49).ext E50).wr W52).wr W114).wr W115).wr W120)
    have fx124 := (((fx57.other W114 (Or.inl (ne_i (by omega)))).other W115 (Or.inl (ne_i (by omega)))).other W120 (Or.inl (ne_i (by omega))))
    have fx125 := (((fx58.other W114 (Or.inl (ne_i (by omega)))).other W115 (Or.inl (ne_i (by omega)))).other W120 (Or.inl (ne_i (by omega))))
    have fx126 := (((fx62.other W114 (Or.inl (ne_i (by omega)))).other W115 (Or.inl (ne_i (by omega)))).other W120 (Or.inl (ne_i (by omega))))
    have fx127 := (((fx63.other W114 (Or.inl (ne_i (by omega)))).other W115 (Or.inl (ne_i (by omega)))).other W120 (Or.inl (ne_i (by omega))))
    have fx128 := (((fx64.other W114 (Or.inl (ne_i (by omega)))).other W115 (Or.inl (ne_i (by omega)))).other W120 (Or.inl (ne_i (by omega))))
    have fx129 := (((fx65.other W114 (Or.inl (ne_i (by omega)))).other W115 (Or.inl (ne_i (by omega)))).other W120 (Or.inl (ne_i (by omega))))
    have fx130 := (((fx66.other W114 (Or.inl (ne_i (by omega)))).other W115 (Or.inl (ne_i (by omega)))).other W120 (Or.inl (ne_i (by omega))))
    have fx131 := (((fx67.other W114 (ne_i (by omega))).other W115 (ne_i (by omega))).other W120 (ne_i (by omega)))
    have fx132 := (((fx68.other W114 (ne_i (by omega))).other W115 (ne_i (by omega))).other W120 (ne_i (by omega)))
    have fx133 := (((fx69.other W114 (ne_i (by omega))).other W115 (ne_i (by omega))).other W120 (ne_i (by omega)))
    have fx134 := (((fx71.other W114 (ne_i (by omega))).other W115 (ne_i (by omega))).other W120 (ne_i (by omega)))
    have fx135 := (((fx73.other W114 (ne_i (by omega))).other W115 (ne_i (by omega))).other W120 (ne_i (by omega)))
    have fx136 := (((fx74.other W114 (ne_i (by omega))).other W115 (ne_i (by omega))).other W120 (ne_i (by omega)))
    exact J _ _ _ fx123 fx124 fx125 (fx116.other W120 (Or.inl (ne_i (by omega)))) fx122 (fx119.other W120 (Or.inl (ne_i (by omega)))) (fx118.other W120 (Or.inl (ne_i (by omega)))) (fx117.other W120 (Or.inl (ne_i (by omega)))) fx126 fx127 fx128 fx129 fx130 fx131 fx132 fx133 fx134 fx135 fx136 fx121 A120 (((((((((((((((((((((((((((((((Keep.refl _ [b]).ext E1).wr W2 (Or.inl (by simp))).ext E3).wr W4 (Or.inl (by simp))).ext E5).wr W8 (Or.inl (by simp))).ext E9).wr W12 (Or.inl (by simp))).ext E14).wr W17 (Or.inl (by simp))).ext E18).wr W20 (Or.inl (by simp))).ext E21).wr W24 (Or.inr sz_b14)).wr W26 (Or.inr sz_b18)).wr W29 (Or.inr sz_b14)).wr W31 (Or.inr sz_b18)).wr W35 (Or.inr sz_b14)).wr W37 (Or.inr sz_b18)).wr W39 (Or.inr sz_b14)).wr W41 (Or.inr sz_b18)).wr W42 (Or.inr sz_b21)).trans Kfi all0).wr W47 (Or.inl (by simp))).wr W49 (Or.inl (by simp))).ext E50).wr W52 (Or.inl (by simp))).wr W114 (Or.inr sz_b50)).wr W115 (Or.inr sz_b50)).wr W120 (Or.inr sz_b50))
  · refine go_iconst C (pc' := 201) d5_200 (z := (0 : Int32)) (by decide) rfl ?_
    refine go_istore C (pc' := 203) d5_201 (Ls' := #[(.val (.ref b)), (.val (.ref al)), (.val (.ref ah)), (.val (.int (4 : Int32))), (.val (.int (4 : Int32))), (.val (.ref b21)), (.val (.int (1 : Int32))), (.val (.int (s3 + w3))), (.val (.int (0 : Int32))), (.val (.int w3))]) rfl rfl ?_
    refine go_iload C (pc' := 205) d5_203 rfl rfl ?_
    refine go_aloadN C (pc' := 206) d5_205 rfl rfl rfl ?_
    refine gF C (pc' := 209) (wd_64 hw) ((F49.ext E50).other W52 (Or.inr (sn_35 hw).symm)) d5_206 rfl ?_
    refine go_icmpNo C (pc' := 212) d5_209 (by decide) rfl ?_
    refine go_aloadN C (pc' := 213) d5_212 rfl rfl rfl ?_
    refine gF C (pc' := 216) (wd_62 hw) fx59 d5_213 rfl ?_
    refine go_iload C (pc' := 218) d5_216 rfl rfl ?_
    refine go_iaget C (pc' := 219) fx76 (by decide) (i := 0) (by decide) rfl d5_218 rfl ?_
    refine go_istore C (pc' := 221) d5_219 (Ls' := #[(.val (.ref b)), (.val (.ref al)), (.val (.ref ah)), (.val (.int (4 : Int32))), (.val (.int (4 : Int32))), (.val (.ref b21)), (.val (.int (1 : Int32))), (.val (.int (s3 + w3))), (.val (.int (0 : Int32))), (.val (.int (0 : Int32)))]) rfl rfl ?_
    refine go_iload C (pc' := 223) d5_221 rfl rfl ?_
    refine go_aloadN C (pc' := 224) d5_223 rfl rfl rfl ?_
    refine gF C (pc' := 227) (wd_62 hw) fx59 d5_224 rfl ?_
    refine go_iload C (pc' := 229) d5_227 rfl rfl ?_
    refine go_iconst C (pc' := 230) d5_229 (z := (1 : Int32)) (by decide) rfl ?_
    refine go_iadd C (pc' := 231) d5_230 rfl ?_
    refine go_st (st' := [(.int (1 : Int32)), (.ref fi), (.int (0 : Int32))]) (by rw [show ((0 : Int32) + (1 : Int32)) = (1 : Int32) from by decide]) ?_
    refine go_iaget C (pc' := 232) fx76 (by decide) (i := 1) (by decide) rfl d5_231 rfl ?_
    refine go_icmpNo C (pc' := 235) d5_232 (by decide) rfl ?_
    refine go_iload C (pc' := 237) d5_235 rfl rfl ?_
    refine go_iloadN C (pc' := 238) d5_237 rfl rfl ?_
    refine go_icmpNo C (pc' := 241) d5_238 (by decide) rfl ?_
    refine go_aloadN C (pc' := 242) d5_241 rfl rfl rfl ?_
    refine gF C (pc' := 245) (wd_66 hw) F52 d5_242 rfl ?_
    refine go_iload C (pc' := 247) d5_245 rfl rfl ?_
    refine go_dup2 C (pc' := 248) d5_247 rfl rfl rfl ?_
    refine go_laget C (pc' := 249) (A50.other W52 (ne_i (by omega))) (by decide) (i := 0) (by decide) rfl d5_248 rfl ?_
    refine go_aloadN C (pc' := 250) d5_249 rfl rfl rfl ?_
    refine gF C (pc' := 253) (wd_42 hw) fx61 d5_250 rfl ?_
    refine go_iload C (pc' := 255) d5_253 rfl rfl ?_
    refine go_laget C (pc' := 256) fx74 (by decide) (i := 0) (by decide) rfl d5_255 rfl ?_
    refine go_aloadN C (pc' := 257) d5_256 rfl rfl rfl ?_
    refine gF C (pc' := 260) (wd_40 hw) fx60 d5_257 rfl ?_
    refine go_iload C (pc' := 262) d5_260 rfl rfl ?_
    refine go_iaget C (pc' := 263) fx73 (by decide) (i := 0) (by decide) rfl d5_262 rfl ?_
    refine go_lshl C (pc' := 264) d5_263 rfl ?_
    refine go_lor C (pc' := 265) d5_264 rfl ?_
    refine go_laset C (pc' := 266) (A50.other W52 (ne_i (by omega))) (by decide) (i := 0) (by decide) (by simp) (vs' := [(.long ((0 : Int64) ||| (m0 <<< ((0 : Int32) &&& 0x3f).toInt64)))]) rfl d5_265 rfl n50 ?_
    intro h137 W137 A137
    refine go_old fun O137 => ?_
    refine gI C (pc' := 269) d5_266 rfl (z := (1 : Int32)) (by decide) (Ls' := #[(.val (.ref b)), (.val (.ref al)), (.val (.ref ah)), (.val (.int (4 : Int32))), (.val (.int (4 : Int32))), (.val (.ref b21)), (.val (.int (1 : Int32))), (.val (.int (s3 + w3))), (.val (.int (0 : Int32))), (.val (.int (1 : Int32)))]) rfl rfl ?_
    refine go_goto C (pc' := 221) d5_269 (by decide) (by decide) ?_
    refine go_iload C (pc' := 223) d5_221 rfl rfl ?_
    refine go_aloadN C (pc' := 224) d5_223 rfl rfl rfl ?_
    refine gF C (pc' := 227) (wd_62 hw) (fx59.other W137 (Or.inl (ne_i (by omega)))) d5_224 rfl ?_
    refine go_iload C (pc' := 229) d5_227 rfl rfl ?_
    refine go_iconst C (pc' := 230) d5_229 (z := (1 : Int32)) (by decide) rfl ?_
    refine go_iadd C (pc' := 231) d5_230 rfl ?_
    refine go_st (st' := [(.int (1 : Int32)), (.ref fi), (.int (1 : Int32))]) (by rw [show ((0 : Int32) + (1 : Int32)) = (1 : Int32) from by decide]) ?_
    refine go_iaget C (pc' := 232) (fx76.other W137 (ne_i (by omega))) (by decide) (i := 1) (by decide) rfl d5_231 rfl ?_
    refine go_icmpNo C (pc' := 235) d5_232 (by decide) rfl ?_
    refine go_iload C (pc' := 237) d5_235 rfl rfl ?_
    refine go_iloadN C (pc' := 238) d5_237 rfl rfl ?_
    refine go_icmpNo C (pc' := 241) d5_238 (by decide) rfl ?_
    refine go_aloadN C (pc' := 242) d5_241 rfl rfl rfl ?_
    refine gF C (pc' := 245) (wd_66 hw) (F52.other W137 (Or.inl (ne_i (by omega)))) d5_242 rfl ?_
    refine go_iload C (pc' := 247) d5_245 rfl rfl ?_
    refine go_dup2 C (pc' := 248) d5_247 rfl rfl rfl ?_
    refine go_laget C (pc' := 249) A137 (by decide) (i := 0) (by decide) rfl d5_248 rfl ?_
    refine go_aloadN C (pc' := 250) d5_249 rfl rfl rfl ?_
    refine gF C (pc' := 253) (wd_42 hw) (fx61.other W137 (Or.inl (ne_i (by omega)))) d5_250 rfl ?_
    refine go_iload C (pc' := 255) d5_253 rfl rfl ?_
    refine go_laget C (pc' := 256) (fx74.other W137 (ne_i (by omega))) (by decide) (i := 1) (by decide) rfl d5_255 rfl ?_
    refine go_aloadN C (pc' := 257) d5_256 rfl rfl rfl ?_
    refine gF C (pc' := 260) (wd_40 hw) (fx60.other W137 (Or.inl (ne_i (by omega)))) d5_257 rfl ?_
    refine go_iload C (pc' := 262) d5_260 rfl rfl ?_
    refine go_iaget C (pc' := 263) (fx73.other W137 (ne_i (by omega))) (by decide) (i := 1) (by decide) rfl d5_262 rfl ?_
    refine go_lshl C (pc' := 264) d5_263 rfl ?_
    refine go_lor C (pc' := 265) d5_264 rfl ?_
    refine go_laset C (pc' := 266) A137 (by decide) (i := 0) (by decide) (by simp) (vs' := [(.long (((0 : Int64) ||| (m0 <<< ((0 : Int32) &&& 0x3f).toInt64)) ||| (m1 <<< (s1 &&& 0x3f).toInt64)))]) rfl d5_265 rfl n50 ?_
    intro h138 W138 A138
    refine go_old fun O138 => ?_
    refine gI C (pc' := 269) d5_266 rfl (z := (2 : Int32)) (by decide) (Ls' := #[(.val (.ref b)), (.val (.ref al)), (.val (.ref ah)), (.val (.int (4 : Int32))), (.val (.int (4 : Int32))), (.val (.ref b21)), (.val (.int (1 : Int32))), (.val (.int (s3 + w3))), (.val (.int (0 : Int32))), (.val (.int (2 : Int32)))]) rfl rfl ?_
    refine go_goto C (pc' := 221) d5_269 (by decide) (by decide) ?_
    refine go_iload C (pc' := 223) d5_221 rfl rfl ?_
    refine go_aloadN C (pc' := 224) d5_223 rfl rfl rfl ?_
    have fx139 := ((fx59.other W137 (Or.inl (ne_i (by omega)))).other W138 (Or.inl (ne_i (by omega))))
    refine gF C (pc' := 227) (wd_62 hw) fx139 d5_224 rfl ?_
    refine go_iload C (pc' := 229) d5_227 rfl rfl ?_
    refine go_iconst C (pc' := 230) d5_229 (z := (1 : Int32)) (by decide) rfl ?_
    refine go_iadd C (pc' := 231) d5_230 rfl ?_
    refine go_st (st' := [(.int (1 : Int32)), (.ref fi), (.int (2 : Int32))]) (by rw [show ((0 : Int32) + (1 : Int32)) = (1 : Int32) from by decide]) ?_
    refine go_iaget C (pc' := 232) ((fx76.other W137 (ne_i (by omega))).other W138 (ne_i (by omega))) (by decide) (i := 1) (by decide) rfl d5_231 rfl ?_
    refine go_icmpNo C (pc' := 235) d5_232 (by decide) rfl ?_
    refine go_iload C (pc' := 237) d5_235 rfl rfl ?_
    refine go_iloadN C (pc' := 238) d5_237 rfl rfl ?_
    refine go_icmpNo C (pc' := 241) d5_238 (by decide) rfl ?_
    refine go_aloadN C (pc' := 242) d5_241 rfl rfl rfl ?_
    have fx140 := ((F52.other W137 (Or.inl (ne_i (by omega)))).other W138 (Or.inl (ne_i (by omega))))
    refine gF C (pc' := 245) (wd_66 hw) fx140 d5_242 rfl ?_
    refine go_iload C (pc' := 247) d5_245 rfl rfl ?_
    refine go_dup2 C (pc' := 248) d5_247 rfl rfl rfl ?_
    refine go_laget C (pc' := 249) A138 (by decide) (i := 0) (by decide) rfl d5_248 rfl ?_
    refine go_aloadN C (pc' := 250) d5_249 rfl rfl rfl ?_
    have fx141 := ((fx61.other W137 (Or.inl (ne_i (by omega)))).other W138 (Or.inl (ne_i (by omega))))
    refine gF C (pc' := 253) (wd_42 hw) fx141 d5_250 rfl ?_
    refine go_iload C (pc' := 255) d5_253 rfl rfl ?_
    refine go_laget C (pc' := 256) ((fx74.other W137 (ne_i (by omega))).other W138 (ne_i (by omega))) (by decide) (i := 2) (by decide) rfl d5_255 rfl ?_
    refine go_aloadN C (pc' := 257) d5_256 rfl rfl rfl ?_
    have fx142 := ((fx60.other W137 (Or.inl (ne_i (by omega)))).other W138 (Or.inl (ne_i (by omega))))
    refine gF C (pc' := 260) (wd_40 hw) fx142 d5_257 rfl ?_
    refine go_iload C (pc' := 262) d5_260 rfl rfl ?_
    refine go_iaget C (pc' := 263) ((fx73.other W137 (ne_i (by omega))).other W138 (ne_i (by omega))) (by decide) (i := 2) (by decide) rfl d5_262 rfl ?_
    refine go_lshl C (pc' := 264) d5_263 rfl ?_
    refine go_lor C (pc' := 265) d5_264 rfl ?_
    refine go_laset C (pc' := 266) A138 (by decide) (i := 0) (by decide) (by simp) (vs' := [(.long ((((0 : Int64) ||| (m0 <<< ((0 : Int32) &&& 0x3f).toInt64)) ||| (m1 <<< (s1 &&& 0x3f).toInt64)) ||| (m2 <<< (s2 &&& 0x3f).toInt64)))]) rfl d5_265 rfl n50 ?_
    intro h143 W143 A143
    refine go_old fun O143 => ?_
    refine gI C (pc' := 269) d5_266 rfl (z := (3 : Int32)) (by decide) (Ls' := #[(.val (.ref b)), (.val (.ref al)), (.val (.ref ah)), (.val (.int (4 : Int32))), (.val (.int (4 : Int32))), (.val (.ref b21)), (.val (.int (1 : Int32))), (.val (.int (s3 + w3))), (.val (.int (0 : Int32))), (.val (.int (3 : Int32)))]) rfl rfl ?_
    refine go_goto C (pc' := 221) d5_269 (by decide) (by decide) ?_
    refine go_iload C (pc' := 223) d5_221 rfl rfl ?_
    refine go_aloadN C (pc' := 224) d5_223 rfl rfl rfl ?_
    refine gF C (pc' := 227) (wd_62 hw) (fx139.other W143 (Or.inl (ne_i (by omega)))) d5_224 rfl ?_
    refine go_iload C (pc' := 229) d5_227 rfl rfl ?_
    refine go_iconst C (pc' := 230) d5_229 (z := (1 : Int32)) (by decide) rfl ?_
    refine go_iadd C (pc' := 231) d5_230 rfl ?_
    refine go_st (st' := [(.int (1 : Int32)), (.ref fi), (.int (3 : Int32))]) (by rw [show ((0 : Int32) + (1 : Int32)) = (1 : Int32) from by decide]) ?_
    have fx144 := (((fx76.other W137 (ne_i (by omega))).other W138 (ne_i (by omega))).other W143 (ne_i (by omega)))
    refine go_iaget C (pc' := 232) fx144 (by decide) (i := 1) (by decide) rfl d5_231 rfl ?_
    refine go_icmpNo C (pc' := 235) d5_232 (by decide) rfl ?_
    refine go_iload C (pc' := 237) d5_235 rfl rfl ?_
    refine go_iloadN C (pc' := 238) d5_237 rfl rfl ?_
    refine go_icmpNo C (pc' := 241) d5_238 (by decide) rfl ?_
    refine go_aloadN C (pc' := 242) d5_241 rfl rfl rfl ?_
    refine gF C (pc' := 245) (wd_66 hw) (fx140.other W143 (Or.inl (ne_i (by omega)))) d5_242 rfl ?_
    refine go_iload C (pc' := 247) d5_245 rfl rfl ?_
    refine go_dup2 C (pc' := 248) d5_247 rfl rfl rfl ?_
    refine go_laget C (pc' := 249) A143 (by decide) (i := 0) (by decide) rfl d5_248 rfl ?_
    refine go_aloadN C (pc' := 250) d5_249 rfl rfl rfl ?_
    refine gF C (pc' := 253) (wd_42 hw) (fx141.other W143 (Or.inl (ne_i (by omega)))) d5_250 rfl ?_
    refine go_iload C (pc' := 255) d5_253 rfl rfl ?_
    have fx145 := (((fx74.other W137 (ne_i (by omega))).other W138 (ne_i (by omega))).other W143 (ne_i (by omega)))
    refine go_laget C (pc' := 256) fx145 (by decide) (i := 3) (by decide) rfl d5_255 rfl ?_
    refine go_aloadN C (pc' := 257) d5_256 rfl rfl rfl ?_
    refine gF C (pc' := 260) (wd_40 hw) (fx142.other W143 (Or.inl (ne_i (by omega)))) d5_257 rfl ?_
    refine go_iload C (pc' := 262) d5_260 rfl rfl ?_
    have fx146 := (((fx73.other W137 (ne_i (by omega))).other W138 (ne_i (by omega))).other W143 (ne_i (by omega)))
    refine go_iaget C (pc' := 263) fx146 (by decide) (i := 3) (by decide) rfl d5_262 rfl ?_
    refine go_lshl C (pc' := 264) d5_263 rfl ?_
    refine go_lor C (pc' := 265) d5_264 rfl ?_
    refine go_laset C (pc' := 266) A143 (by decide) (i := 0) (by decide) (by simp) (vs' := [(.long (((((0 : Int64) ||| (m0 <<< ((0 : Int32) &&& 0x3f).toInt64)) ||| (m1 <<< (s1 &&& 0x3f).toInt64)) ||| (m2 <<< (s2 &&& 0x3f).toInt64)) ||| (m3 <<< (s3 &&& 0x3f).toInt64)))]) rfl d5_265 rfl n50 ?_
    intro h147 W147 A147
    refine go_old fun O147 => ?_
    refine gI C (pc' := 269) d5_266 rfl (z := (4 : Int32)) (by decide) (Ls' := #[(.val (.ref b)), (.val (.ref al)), (.val (.ref ah)), (.val (.int (4 : Int32))), (.val (.int (4 : Int32))), (.val (.ref b21)), (.val (.int (1 : Int32))), (.val (.int (s3 + w3))), (.val (.int (0 : Int32))), (.val (.int (4 : Int32)))]) rfl rfl ?_
    refine go_goto C (pc' := 221) d5_269 (by decide) (by decide) ?_
    refine go_iload C (pc' := 223) d5_221 rfl rfl ?_
    refine go_aloadN C (pc' := 224) d5_223 rfl rfl rfl ?_
    have fx148 := ((fx139.other W143 (Or.inl (ne_i (by omega)))).other W147 (Or.inl (ne_i (by omega))))
    refine gF C (pc' := 227) (wd_62 hw) fx148 d5_224 rfl ?_
    refine go_iload C (pc' := 229) d5_227 rfl rfl ?_
    refine go_iconst C (pc' := 230) d5_229 (z := (1 : Int32)) (by decide) rfl ?_
    refine go_iadd C (pc' := 231) d5_230 rfl ?_
    refine go_st (st' := [(.int (1 : Int32)), (.ref fi), (.int (4 : Int32))]) (by rw [show ((0 : Int32) + (1 : Int32)) = (1 : Int32) from by decide]) ?_
    refine go_iaget C (pc' := 232) (fx144.other W147 (ne_i (by omega))) (by decide) (i := 1) (by decide) rfl d5_231 rfl ?_
    refine go_icmpYes C (pc' := 272) d5_232 (by decide) (by decide) (by decide) ?_
    refine gI C (pc' := 275) d5_272 rfl (z := (1 : Int32)) (by decide) (Ls' := #[(.val (.ref b)), (.val (.ref al)), (.val (.ref ah)), (.val (.int (4 : Int32))), (.val (.int (4 : Int32))), (.val (.ref b21)), (.val (.int (1 : Int32))), (.val (.int (s3 + w3))), (.val (.int (1 : Int32))), (.val (.int (4 : Int32)))]) rfl rfl ?_
    refine go_goto C (pc' := 203) d5_275 (by decide) (by decide) ?_
    refine go_iload C (pc' := 205) d5_203 rfl rfl ?_
    refine go_aloadN C (pc' := 206) d5_205 rfl rfl rfl ?_
    have fx149 := ((((((F49.ext E50).other W52 (Or.inr (sn_35 hw).symm)).other W137 (Or.inl (ne_i (by omega)))).other W138 (Or.inl (ne_i (by omega)))).other W143 (Or.inl (ne_i (by omega)))).other W147 (Or.inl (ne_i (by omega))))
    refine gF C (pc' := 209) (wd_64 hw) fx149 d5_206 rfl ?_
    refine go_icmpYes C (pc' := 278) d5_209 (by decide) (by decide) (by decide) ?_
    have fx150 := ((((((((fx46.wr W47).wr W49).ext E50).wr W52).wr W137).wr W138).wr W143).wr W147)
    have fx151 := ((((fx57.other W137 (Or.inl (ne_i (by omega)))).other W138 (Or.inl (ne_i (by omega)))).other W143 (Or.inl (ne_i (by omega)))).other W147 (Or.inl (ne_i (by omega))))
    have fx152 := ((((fx58.other W137 (Or.inl (ne_i (by omega)))).other W138 (Or.inl (ne_i (by omega)))).other W143 (Or.inl (ne_i (by omega)))).other W147 (Or.inl (ne_i (by omega))))
    have fx153 := ((fx142.other W143 (Or.inl (ne_i (by omega)))).other W147 (Or.inl (ne_i (by omega))))
    have fx154 := ((fx141.other W143 (Or.inl (ne_i (by omega)))).other W147 (Or.inl (ne_i (by omega))))
    have fx155 := ((fx140.other W143 (Or.inl (ne_i (by omega)))).other W147 (Or.inl (ne_i (by omega))))
    have fx156 := ((((fx62.other W137 (Or.inl (ne_i (by omega)))).other W138 (Or.inl (ne_i (by omega)))).other W143 (Or.inl (ne_i (by omega)))).other W147 (Or.inl (ne_i (by omega))))
    have fx157 := ((((fx63.other W137 (Or.inl (ne_i (by omega)))).other W138 (Or.inl (ne_i (by omega)))).other W143 (Or.inl (ne_i (by omega)))).other W147 (Or.inl (ne_i (by omega))))
    have fx158 := ((((fx64.other W137 (Or.inl (ne_i (by omega)))).other W138 (Or.inl (ne_i (by omega)))).other W143 (Or.inl (ne_i (by omega)))).other W147 (Or.inl (ne_i (by omega))))
    have fx159 := ((((fx65.other W137 (Or.inl (ne_i (by omega)))).other W138 (Or.inl (ne_i (by omega)))).other W143 (Or.inl (ne_i (by omega)))).other W147 (Or.inl (ne_i (by omega))))
    have fx160 := ((((fx66.other W137 (Or.inl (ne_i (by omega)))).other W138 (Or.inl (ne_i (by omega)))).other W143 (Or.inl (ne_i (by omega)))).other W147 (Or.inl (ne_i (by omega))))
    have fx161 := ((((fx67.other W137 (ne_i (by omega))).other W138 (ne_i (by omega))).other W143 (ne_i (by omega))).other W147 (ne_i (by omega)))
    have fx162 := ((((fx68.other W137 (ne_i (by omega))).other W138 (ne_i (by omega))).other W143 (ne_i (by omega))).other W147 (ne_i (by omega)))
    have fx163 := ((((fx69.other W137 (ne_i (by omega))).other W138 (ne_i (by omega))).other W143 (ne_i (by omega))).other W147 (ne_i (by omega)))
    have fx164 := ((((fx71.other W137 (ne_i (by omega))).other W138 (ne_i (by omega))).other W143 (ne_i (by omega))).other W147 (ne_i (by omega)))
    exact J _ _ _ fx150 fx151 fx152 fx148 fx149 fx153 fx154 fx155 fx156 fx157 fx158 fx159 fx160 fx161 fx162 fx163 fx164 (fx146.other W147 (ne_i (by omega))) (fx145.other W147 (ne_i (by omega))) (fx144.other W147 (ne_i (by omega))) A147 ((((((((((((((((((((((((((((((((Keep.refl _ [b]).ext E1).wr W2 (Or.inl (by simp))).ext E3).wr W4 (Or.inl (by simp))).ext E5).wr W8 (Or.inl (by simp))).ext E9).wr W12 (Or.inl (by simp))).ext E14).wr W17 (Or.inl (by simp))).ext E18).wr W20 (Or.inl (by simp))).ext E21).wr W24 (Or.inr sz_b14)).wr W26 (Or.inr sz_b18)).wr W29 (Or.inr sz_b14)).wr W31 (Or.inr sz_b18)).wr W35 (Or.inr sz_b14)).wr W37 (Or.inr sz_b18)).wr W39 (Or.inr sz_b14)).wr W41 (Or.inr sz_b18)).wr W42 (Or.inr sz_b21)).trans Kfi all0).wr W47 (Or.inl (by simp))).wr W49 (Or.inl (by simp))).ext E50).wr W52 (Or.inl (by simp))).wr W137 (Or.inr sz_b50)).wr W138 (Or.inr sz_b50)).wr W143 (Or.inr sz_b50)).wr W147 (Or.inr sz_b50))
set_option maxRecDepth 65536 in
set_option maxHeartbeats 4000000 in
theorem copyOf2_met (l : Launch) (Z : State) (a0 : Array Value) (hw : ∀ d ∈ tables_1, d.before a0 Z = true) (n0 : Nat) (h : Heap) (O : Old Z n0 h) {a : Nat} {k : ClassId} (Aa : Ar Z h a .int k [(.int (0 : Int32)), (.int (3 : Int32)), (.int (4 : Int32)), (.int (0 : Int32)), (.int (0 : Int32)), (.int (0 : Int32))]) :
    Met l Z n0 (⟨"java/util/Arrays", "copyOf", "([II)[I"⟩ : MethodName) jdk_65_method_123_code 3 (some (.array .int)) [] ({ frames := 1, cells := 1, slots := 3, locals := 40 } : Room) #[(.ref a), (.int (3 : Int32))] h (fun v h' => ∃ (c : Nat) (k' : ClassId), v = some (.ref c) ∧ a < c ∧ Keep h h' [] ∧ Ar Z h' c .int k' [(.int (0 : Int32)), (.int (3 : Int32)), (.int (4 : Int32))]) := by
  refine met_of (Ls := #[(.val (.ref a)), (.val (.int (3 : Int32))), .unset]) (by decide +kernel) (fun m => by first | (simp [entryFrame, mkF, argsToLocals, Value.category]; done) | rfl) O ?_
  intro p e s m below meth cd C
  refine go_iloadN C (pc' := 1) d4_0 rfl rfl ?_
  refine go_aloadN C (pc' := 2) d4_1 rfl rfl rfl ?_
  refine go_alen C (pc' := 3) Aa (z := (6 : Int32)) rfl d4_2 rfl ?_
  refine go_icmpYes C (pc' := 14) d4_3 (by decide) (by decide) (by decide) ?_
  refine go_iloadN C (pc' := 15) d4_14 rfl rfl ?_
  refine go_newPA C (pc' := 17) (len := 3) (ty := .int) rfl (wd_8 hw) d4_15 rfl (by decide) (by decide) (by decide) (by decide) (by decide) ?_
  intro h1 b1 k1 g1 n1 E1 A1
  have sz_b1 := Nat.le_trans (Nat.le_refl _) (Nat.le_of_eq g1.symm)
  have lt_b1 : @LT.lt Nat _ a b1 := by rw [g1]; exact Aa.lt
  refine go_old fun O1 => ?_
  refine go_astoreN C (pc' := 18) d4_17 rfl (Ls' := #[(.val (.ref a)), (.val (.int (3 : Int32))), (.val (.ref b1))]) rfl rfl ?_
  refine go_aloadN C (pc' := 19) d4_18 rfl rfl rfl ?_
  refine go_iconst C (pc' := 20) d4_19 (z := (0 : Int32)) (by decide) rfl ?_
  refine go_aloadN C (pc' := 21) d4_20 rfl rfl rfl ?_
  refine go_iconst C (pc' := 22) d4_21 (z := (0 : Int32)) (by decide) rfl ?_
  refine go_aloadN C (pc' := 23) d4_22 rfl rfl rfl ?_
  refine go_alen C (pc' := 24) (Aa.ext E1) (z := (6 : Int32)) rfl d4_23 rfl ?_
  refine go_iloadN C (pc' := 25) d4_24 rfl rfl ?_
  refine go_callS C (pc' := 28) (y' := (⟨"java/lang/Math", "min", "(II)I"⟩ : MethodName)) (wd_57 hw) (wd_1 hw) (min_met l Z a0 hw _ _ O1 (6 : Int32) (3 : Int32) (3 : Int32) (by decide)) (wd_3 hw) (wd_2 hw) (by decide) (by decide) (W := 4) (Nat.le_of_ble_eq_true rfl) (by decide) (by decide) (by decide) rfl (argsL := [(.int (6 : Int32)), (.int (3 : Int32))]) (rest := [(.int (0 : Int32)), (.ref b1), (.int (0 : Int32)), (.ref a)]) pd_1 rfl rfl rfl d4_25 rfl ?_
  rintro _ _ ⟨rfl, rfl⟩
  refine go_st (st' := [(.int (3 : Int32)), (.int (0 : Int32)), (.ref b1), (.int (0 : Int32)), (.ref a)]) rfl ?_
  refine go_acopy C (pc' := 31) (wd_58 hw) (wd_61 hw) (wd_59 hw) (wd_60 hw) (Aa.ext E1) A1 rfl (by simp [fits]) (by simp [fits, defaultValue]) (by simp) (by decide) (by decide) (i := 0) (by decide) (by decide) (j := 0) (by decide) (by decide) (q := 3) (by decide) (by simp) (by decide) (vs' := [(.int (0 : Int32)), (.int (3 : Int32)), (.int (4 : Int32))]) rfl rfl d4_28 rfl n1 (by decide) (W := 0) (Nat.le_of_ble_eq_true rfl) (by decide) ?_
  intro h2 K2 A2
  refine go_old fun O2 => ?_
  refine go_aloadN C (pc' := 32) d4_31 rfl rfl rfl ?_
  exact go_retA C rfl rfl d4_32 (by decide) (by decide) ⟨b1, _, rfl, by omega, (((Keep.refl _ []).ext E1).trans K2 (allS (Or.inr sz_b1) all0)), A2⟩
set_option maxRecDepth 65536 in
set_option maxHeartbeats 4000000 in
theorem init2_met (l : Launch) (Z : State) (a0 : Array Value) (hw : ∀ d ∈ tables_1, d.before a0 Z = true) (n0 : Nat) (h : Heap) (O : Old Z n0 h)  (b al ah : Nat) (kal kah : ClassId) (kd : Int32) (hk : kd = 0 ∨ kd = 1 ∨ kd = 2 ∨ kd = 3 ∨ kd = 4) (l0 u0 w0 l1 u1 w1 l2 u2 w2 l3 u3 w3 s1 s2 s3 : Int32) (m0 m1 m2 m3 : Int64) (hz0 : (((u0).toInt64 - (l0).toInt64).toUInt64 >>> ((32 : Int32) &&& 0x3f).toInt64.toUInt64).toInt64.toInt32 = 0) (hb0 : ((64 : Int32) - ((32 : Int32) + (nlI ((u0).toInt64 - (l0).toInt64).toInt32))) = w0) (hm0 : (((1 : Int64) <<< (w0 &&& 0x3f).toInt64) - (1 : Int64)) = m0) (hs1 : ((0 : Int32) + w0) = s1) (hc0 : ¬ (64 : Int32) < s1) (hz1 : (((u1).toInt64 - (l1).toInt64).toUInt64 >>> ((32 : Int32) &&& 0x3f).toInt64.toUInt64).toInt64.toInt32 = 0) (hb1 : ((64 : Int32) - ((32 : Int32) + (nlI ((u1).toInt64 - (l1).toInt64).toInt32))) = w1) (hm1 : (((1 : Int64) <<< (w1 &&& 0x3f).toInt64) - (1 : Int64)) = m1) (hs2 : (s1 + w1) = s2) (hc1 : ¬ (64 : Int32) < s2) (hz2 : (((u2).toInt64 - (l2).toInt64).toUInt64 >>> ((32 : Int32) &&& 0x3f).toInt64.toUInt64).toInt64.toInt32 = 0) (hb2 : ((64 : Int32) - ((32 : Int32) + (nlI ((u2).toInt64 - (l2).toInt64).toInt32))) = w2) (hm2 : (((1 : Int64) <<< (w2 &&& 0x3f).toInt64) - (1 : Int64)) = m2) (hs3 : (s2 + w2) = s3) (hc2 : ¬ (64 : Int32) < s3) (hz3 : (((u3).toInt64 - (l3).toInt64).toUInt64 >>> ((32 : Int32) &&& 0x3f).toInt64.toUInt64).toInt64.toInt32 = 0) (hb3 : ((64 : Int32) - ((32 : Int32) + (nlI ((u3).toInt64 - (l3).toInt64).toInt32))) = w3) (hm3 : (((1 : Int64) <<< (w3 &&& 0x3f).toInt64) - (1 : Int64)) = m3) (hc3 : (64 : Int32) < (s3 + w3)) (Aal : Ar Z h al .int kal [(.int l0), (.int l1), (.int l2), (.int l3)]) (Aah : Ar Z h ah .int kah [(.int u0), (.int u1), (.int u2), (.int u3)]) (Eal : Exa Z h al "[I") (Eah : Exa Z h ah "[I") (E_b : Exa Z h b "com/example/invariant/invariant/check/ConfigurationStore") (F_b_low : Fld Z h b "com/example/invariant/invariant/check/ConfigurationStore" "low" "[I" .null) (F_b_high : Fld Z h b "com/example/invariant/invariant/check/ConfigurationStore" "high" "[I" .null) (F_b_firstInt : Fld Z h b "com/example/invariant/invariant/check/ConfigurationStore" "firstInt" "[I" .null) (F_b_words : Fld Z h b "com/example/invariant/invariant/check/ConfigurationStore" "words" "I" (.int (0 : Int32))) (F_b_shift : Fld Z h b "com/example/invariant/invariant/check/ConfigurationStore" "shift" "[I" .null) (F_b_mask : Fld Z h b "com/example/invariant/invariant/check/ConfigurationStore" "mask" "[J" .null) (F_b_keyMask : Fld Z h b "com/example/invariant/invariant/check/ConfigurationStore" "keyMask" "[J" .null) (F_b_pageShift : Fld Z h b "com/example/invariant/invariant/check/ConfigurationStore" "pageShift" "I" (.int (0 : Int32))) (F_b_pages : Fld Z h b "com/example/invariant/invariant/check/ConfigurationStore" "pages" "[[J" .null) (F_b_size : Fld Z h b "com/example/invariant/invariant/check/ConfigurationStore" "size" "I" (.int (0 : Int32))) (F_b_table : Fld Z h b "com/example/invariant/invariant/check/ConfigurationStore" "table" "[J" .null) (F_b_packed : Fld Z h b "com/example/invariant/invariant/check/ConfigurationStore" "packed" "[J" .null) (nb : n0 ≤ b) (q1 : al < b) (q2 : ah < b) :
    Met l Z n0 (⟨"com/example/invariant/invariant/check/ConfigurationStore", "<init>", "([I[II)V"⟩ : MethodName) prog_52_method_2_code 10 none [] ({ frames := 2, cells := 10, slots := 158, locals := 55 } : Room) #[(.ref b), (.ref al), (.ref ah), (.int kd)] h (fun v h' => v = none ∧ ∃ (pgs tb lo hi sh mk fi km pk : Nat) (kpgs ktb klo khi ksh kmk kfi kkm kpk : ClassId) (KM0 KM1 : Int64), Sto Z h' b pgs tb lo hi sh mk fi km pk kpgs ktb klo khi ksh kmk kfi kkm kpk (2 : Int32) (19 : Int32) (0 : Int32) [.null] (List.replicate 128 (.long (0 : Int64))) [(.int l0), (.int l1), (.int l2), (.int l3)] [(.int u0), (.int u1), (.int u2), (.int u3)] [(.int (0 : Int32)), (.int s1), (.int s2), (.int (0 : Int32))] [(.long m0), (.long m1), (.long m2), (.long m3)] [(.int (0 : Int32)), (.int (3 : Int32)), (.int (4 : Int32))] [(.long KM0), (.long KM1)] [(.long (0 : Int64)), (.long (0 : Int64))] ∧ Ord n0 b pgs tb lo hi sh mk fi km pk ∧ Keep h h' [b]) := by
  refine met_of (Ls := #[(.val (.ref b)), (.val (.ref al)), (.val (.ref ah)), (.val (.int kd)), .unset, .unset, .unset, .unset, .unset, .unset]) (by decide +kernel) (fun m => by first | (simp [entryFrame, mkF, argsToLocals, Value.category]; done) | rfl) O ?_
  intro p e s m below meth cd C
  refine go_aloadN C (pc' := 1) d5_0 rfl rfl rfl ?_
  refine go_initO C (pc' := 4) (wd_17 hw) (wd_18 hw) (wd_19 hw) rfl d5_1 rfl (by decide) (by decide) ?_
  refine go_aloadN C (pc' := 5) d5_4 rfl rfl rfl ?_
  refine go_iconst C (pc' := 6) d5_5 (z := (1 : Int32)) (by decide) rfl ?_
  refine go_newAA C (pc' := 9) (len := 1) (ty := .long) (ad := "[[J") rfl rfl (wd_20 hw) (wd_21 hw) d5_6 rfl (by decide) (by decide) (by decide) (by decide) (by decide) ?_
  intro h1 b1 k1 g1 n1 E1 A1 V1 X1
  have sz_b1 := Nat.le_trans (Nat.le_refl _) (Nat.le_of_eq g1.symm)
  have lt_b1 : @LT.lt Nat _ b b1 := by rw [g1]; exact E_b.lt
  refine go_old fun O1 => ?_
  refine go_putF C (pc' := 12) (host := "") (Or.inl (wd_22 hw)) Via.refl (F_b_pages.ext E1) (E_b.ext E1) (Or.inl (wd_23 hw)) (wd_12 hw) (ty := (.array (.array .long))) (by decide) rfl rfl d5_9 rfl nb ?_
  intro h2 W2 F2
  refine go_old fun O2 => ?_
  refine go_aloadN C (pc' := 13) d5_12 rfl rfl rfl ?_
  refine go_sipush C (pc' := 16) d5_13 (z := (128 : Int32)) (by decide) rfl ?_
  refine go_newPA C (pc' := 18) (len := 128) (ty := .long) rfl (wd_24 hw) d5_16 rfl (by decide) (by decide) (by decide) (by decide) (by decide) ?_
  intro h3 b3 k3 g3 n3 E3 A3
  have sz_b3 := Nat.le_trans (Nat.le_trans (Nat.le_trans (Nat.le_refl _) E1.1) (Nat.le_of_eq W2.size.symm)) (Nat.le_of_eq g3.symm)
  have lt_b3 : @LT.lt Nat _ b1 b3 := by rw [g3]; exact (A1.other W2 (ne_i (by omega))).lt
  refine go_old fun O3 => ?_
  refine go_putF C (pc' := 21) (host := "") (Or.inl (wd_25 hw)) Via.refl (((F_b_table.ext E1).other W2 (Or.inr (sn_0 hw))).ext E3) (((E_b.ext E1).wr W2).ext E3) (Or.inl (wd_26 hw)) (wd_12 hw) (ty := (.array .long)) (by decide) rfl rfl d5_18 rfl nb ?_
  intro h4 W4 F4
  refine go_old fun O4 => ?_
  refine go_aloadN C (pc' := 22) d5_21 rfl rfl rfl ?_
  refine go_aloadN C (pc' := 23) d5_22 rfl rfl rfl ?_
  have fx6 := ((((Aal.ext E1).other W2 (ne_i (by omega))).ext E3).other W4 (ne_i (by omega)))
  refine go_clone C (pc' := 26) (wd_27 hw) (wd_28 hw) (wd_32 hw) (wd_30 hw) (wd_31 hw) (wd_33 hw) fx6 ((((Eal.ext E1).wr W2).ext E3).wr W4) (by simp [fits]) rfl d5_23 rfl (by decide) (W := 1) (Nat.le_of_ble_eq_true rfl) (by decide) (len := 4) rfl (by decide) (by decide) ?_
  intro h5 b5 g5 n5 E5 A5 X5
  have sz_b5 := Nat.le_trans (Nat.le_trans (Nat.le_trans (Nat.le_trans (Nat.le_trans (Nat.le_refl _) E1.1) (Nat.le_of_eq W2.size.symm)) E3.1) (Nat.le_of_eq W4.size.symm)) (Nat.le_of_eq g5.symm)
  have lt_b5 : @LT.lt Nat _ b3 b5 := by rw [g5]; exact (A3.other W4 (ne_i (by omega))).lt
  refine go_old fun O5 => ?_
  refine go_castY C (pc' := 29) (wd_34 hw) (Ins.self X5) d5_26 rfl ?_
  have fx7 := (((((F_b_low.ext E1).other W2 (Or.inr (sn_1 hw))).ext E3).other W4 (Or.inr (sn_2 hw))).ext E5)
  refine go_putF C (pc' := 32) (host := "") (Or.inl (wd_36 hw)) Via.refl fx7 (((((E_b.ext E1).wr W2).ext E3).wr W4).ext E5) (Or.inr ⟨(wd_37 hw), rfl, rfl⟩) (wd_12 hw) (ty := (.array .int)) (by decide) rfl rfl d5_29 rfl nb ?_
  intro h8 W8 F8
  refine go_old fun O8 => ?_
  refine go_aloadN C (pc' := 33) d5_32 rfl rfl rfl ?_
  refine go_aloadN C (pc' := 34) d5_33 rfl rfl rfl ?_
  have fx10 := ((((((Aah.ext E1).other W2 (ne_i (by omega))).ext E3).other W4 (ne_i (by omega))).ext E5).other W8 (ne_i (by omega)))
  refine go_clone C (pc' := 37) (wd_27 hw) (wd_28 hw) (wd_32 hw) (wd_30 hw) (wd_31 hw) (wd_33 hw) fx10 ((((((Eah.ext E1).wr W2).ext E3).wr W4).ext E5).wr W8) (by simp [fits]) rfl d5_34 rfl (by decide) (W := 1) (Nat.le_of_ble_eq_true rfl) (by decide) (len := 4) rfl (by decide) (by decide) ?_
  intro h9 b9 g9 n9 E9 A9 X9
  have sz_b9 := Nat.le_trans (Nat.le_trans (Nat.le_trans (Nat.le_trans (Nat.le_trans (Nat.le_trans (Nat.le_trans (Nat.le_refl _) E1.1) (Nat.le_of_eq W2.size.symm)) E3.1) (Nat.le_of_eq W4.size.symm)) E5.1) (Nat.le_of_eq W8.size.symm)) (Nat.le_of_eq g9.symm)
  have lt_b9 : @LT.lt Nat _ b5 b9 := by rw [g9]; exact (A5.other W8 (ne_i (by omega))).lt
  refine go_old fun O9 => ?_
  refine go_castY C (pc' := 40) (wd_34 hw) (Ins.self X9) d5_37 rfl ?_
  have fx11 := (((((((F_b_high.ext E1).other W2 (Or.inr (sn_3 hw))).ext E3).other W4 (Or.inr (sn_4 hw))).ext E5).other W8 (Or.inr (sn_5 hw))).ext E9)
  refine go_putF C (pc' := 43) (host := "") (Or.inl (wd_38 hw)) Via.refl fx11 (((((((E_b.ext E1).wr W2).ext E3).wr W4).ext E5).wr W8).ext E9) (Or.inr ⟨(wd_39 hw), rfl, rfl⟩) (wd_12 hw) (ty := (.array .int)) (by decide) rfl rfl d5_40 rfl nb ?_
  intro h12 W12 F12
  refine go_old fun O12 => ?_
  refine go_aloadN C (pc' := 44) d5_43 rfl rfl rfl ?_
  have fx13 := ((((fx6.ext E5).other W8 (ne_i (by omega))).ext E9).other W12 (ne_i (by omega)))
  refine go_alen C (pc' := 45) fx13 (z := (4 : Int32)) rfl d5_44 rfl ?_
  refine go_istore C (pc' := 47) d5_45 (Ls' := #[(.val (.ref b)), (.val (.ref al)), (.val (.ref ah)), (.val (.int kd)), (.val (.int (4 : Int32))), .unset, .unset, .unset, .unset, .unset]) rfl rfl ?_
  refine go_aloadN C (pc' := 48) d5_47 rfl rfl rfl ?_
  refine go_iload C (pc' := 50) d5_48 rfl rfl ?_
  refine go_newPA C (pc' := 52) (len := 4) (ty := .int) rfl (wd_8 hw) d5_50 rfl (by decide) (by decide) (by decide) (by decide) (by decide) ?_
  intro h14 b14 k14 g14 n14 E14 A14
  have sz_b14 := Nat.le_trans (Nat.le_trans (Nat.le_trans (Nat.le_trans (Nat.le_trans (Nat.le_trans (Nat.le_trans (Nat.le_trans (Nat.le_trans (Nat.le_refl _) E1.1) (Nat.le_of_eq W2.size.symm)) E3.1) (Nat.le_of_eq W4.size.symm)) E5.1) (Nat.le_of_eq W8.size.symm)) E9.1) (Nat.le_of_eq W12.size.symm)) (Nat.le_of_eq g14.symm)
  have lt_b14 : @LT.lt Nat _ b9 b14 := by rw [g14]; exact (A9.other W12 (ne_i (by omega))).lt
  refine go_old fun O14 => ?_
  have fx15 := (((((((((F_b_shift.ext E1).other W2 (Or.inr (sn_6 hw))).ext E3).other W4 (Or.inr (sn_7 hw))).ext E5).other W8 (Or.inr (sn_8 hw))).ext E9).other W12 (Or.inr (sn_9 hw))).ext E14)
  have fx16 := (((((((((E_b.ext E1).wr W2).ext E3).wr W4).ext E5).wr W8).ext E9).wr W12).ext E14)
  refine go_putF C (pc' := 55) (host := "") (Or.inl (wd_40 hw)) Via.refl fx15 fx16 (Or.inr ⟨(wd_41 hw), rfl, rfl⟩) (wd_12 hw) (ty := (.array .int)) (by decide) rfl rfl d5_52 rfl nb ?_
  intro h17 W17 F17
  refine go_old fun O17 => ?_
  refine go_aloadN C (pc' := 56) d5_55 rfl rfl rfl ?_
  refine go_iload C (pc' := 58) d5_56 rfl rfl ?_
  refine go_newPA C (pc' := 60) (len := 4) (ty := .long) rfl (wd_24 hw) d5_58 rfl (by decide) (by decide) (by decide) (by decide) (by decide) ?_
  intro h18 b18 k18 g18 n18 E18 A18
  have sz_b18 := Nat.le_trans (Nat.le_trans (Nat.le_trans (Nat.le_trans (Nat.le_trans (Nat.le_trans (Nat.le_trans (Nat.le_trans (Nat.le_trans (Nat.le_trans (Nat.le_trans (Nat.le_refl _) E1.1) (Nat.le_of_eq W2.size.symm)) E3.1) (Nat.le_of_eq W4.size.symm)) E5.1) (Nat.le_of_eq W8.size.symm)) E9.1) (Nat.le_of_eq W12.size.symm)) E14.1) (Nat.le_of_eq W17.size.symm)) (Nat.le_of_eq g18.symm)
  have lt_b18 : @LT.lt Nat _ b14 b18 := by rw [g18]; exact (A14.other W17 (ne_i (by omega))).lt
  refine go_old fun O18 => ?_
  have fx19 := (((((((((((F_b_mask.ext E1).other W2 (Or.inr (sn_10 hw))).ext E3).other W4 (Or.inr (sn_11 hw))).ext E5).other W8 (Or.inr (sn_12 hw))).ext E9).other W12 (Or.inr (sn_13 hw))).ext E14).other W17 (Or.inr (sn_14 hw))).ext E18)
  refine go_putF C (pc' := 63) (host := "") (Or.inl (wd_42 hw)) Via.refl fx19 ((fx16.wr W17).ext E18) (Or.inr ⟨(wd_43 hw), rfl, rfl⟩) (wd_12 hw) (ty := (.array .long)) (by decide) rfl rfl d5_60 rfl nb ?_
  intro h20 W20 F20
  refine go_old fun O20 => ?_
  refine go_iload C (pc' := 65) d5_63 rfl rfl ?_
  refine go_iconst C (pc' := 66) d5_65 (z := (2 : Int32)) (by decide) rfl ?_
  refine go_iadd C (pc' := 67) d5_66 rfl ?_
  refine go_st (st' := [(.int (6 : Int32))]) (by rw [show ((4 : Int32) + (2 : Int32)) = (6 : Int32) from by decide]) ?_
  refine go_newPA C (pc' := 69) (len := 6) (ty := .int) rfl (wd_8 hw) d5_67 rfl (by decide) (by decide) (by decide) (by decide) (by decide) ?_
  intro h21 b21 k21 g21 n21 E21 A21
  have sz_b21 := Nat.le_trans (Nat.le_trans (Nat.le_trans (Nat.le_trans (Nat.le_trans (Nat.le_trans (Nat.le_trans (Nat.le_trans (Nat.le_trans (Nat.le_trans (Nat.le_trans (Nat.le_trans (Nat.le_trans (Nat.le_refl _) E1.1) (Nat.le_of_eq W2.size.symm)) E3.1) (Nat.le_of_eq W4.size.symm)) E5.1) (Nat.le_of_eq W8.size.symm)) E9.1) (Nat.le_of_eq W12.size.symm)) E14.1) (Nat.le_of_eq W17.size.symm)) E18.1) (Nat.le_of_eq W20.size.symm)) (Nat.le_of_eq g21.symm)
  have lt_b21 : @LT.lt Nat _ b18 b21 := by rw [g21]; exact (A18.other W20 (ne_i (by omega))).lt
  refine go_old fun O21 => ?_
  refine go_astore C (pc' := 71) d5_69 rfl (Ls' := #[(.val (.ref b)), (.val (.ref al)), (.val (.ref ah)), (.val (.int kd)), (.val (.int (4 : Int32))), (.val (.ref b21)), .unset, .unset, .unset, .unset]) rfl rfl ?_
  refine go_iconst C (pc' := 72) d5_71 (z := (1 : Int32)) (by decide) rfl ?_
  refine go_istore C (pc' := 74) d5_72 (Ls' := #[(.val (.ref b)), (.val (.ref al)), (.val (.ref ah)), (.val (.int kd)), (.val (.int (4 : Int32))), (.val (.ref b21)), (.val (.int (1 : Int32))), .unset, .unset, .unset]) rfl rfl ?_
  refine go_iconst C (pc' := 75) d5_74 (z := (0 : Int32)) (by decide) rfl ?_
  refine go_istore C (pc' := 77) d5_75 (Ls' := #[(.val (.ref b)), (.val (.ref al)), (.val (.ref ah)), (.val (.int kd)), (.val (.int (4 : Int32))), (.val (.ref b21)), (.val (.int (1 : Int32))), (.val (.int (0 : Int32))), .unset, .unset]) rfl rfl ?_
  refine go_iconst C (pc' := 78) d5_77 (z := (0 : Int32)) (by decide) rfl ?_
  refine go_istore C (pc' := 80) d5_78 (Ls' := #[(.val (.ref b)), (.val (.ref al)), (.val (.ref ah)), (.val (.int kd)), (.val (.int (4 : Int32))), (.val (.ref b21)), (.val (.int (1 : Int32))), (.val (.int (0 : Int32))), (.val (.int (0 : Int32))), .unset]) rfl rfl ?_
  refine go_iload C (pc' := 82) d5_80 rfl rfl ?_
  refine go_iload C (pc' := 84) d5_82 rfl rfl ?_
  refine go_icmpNo C (pc' := 87) d5_84 (by decide) rfl ?_
  refine go_bipush C (pc' := 89) d5_87 (z := (64 : Int32)) (by decide) rfl ?_
  refine go_aloadN C (pc' := 90) d5_89 rfl rfl rfl ?_
  refine go_iload C (pc' := 92) d5_90 rfl rfl ?_
  have fx22 := (((((((fx10.ext E9).other W12 (ne_i (by omega))).ext E14).other W17 (ne_i (by omega))).ext E18).other W20 (ne_i (by omega))).ext E21)
  refine go_iaget C (pc' := 93) fx22 (by decide) (i := 0) (by decide) rfl d5_92 rfl ?_
  refine go_i2l C (pc' := 94) d5_93 rfl ?_
  refine go_aloadN C (pc' := 95) d5_94 rfl rfl rfl ?_
  refine go_iload C (pc' := 97) d5_95 rfl rfl ?_
  have fx23 := (((((fx13.ext E14).other W17 (ne_i (by omega))).ext E18).other W20 (ne_i (by omega))).ext E21)
  refine go_iaget C (pc' := 98) fx23 (by decide) (i := 0) (by decide) rfl d5_97 rfl ?_
  refine go_i2l C (pc' := 99) d5_98 rfl ?_
  refine go_lsub C (pc' := 100) d5_99 rfl ?_
  refine go_callS C (pc' := 103) (y' := (⟨"java/lang/Long", "numberOfLeadingZeros", "(J)I"⟩ : MethodName)) (wd_44 hw) (wd_45 hw) (nlzL_met l Z a0 hw _ _ O21 ((u0).toInt64 - (l0).toInt64) hz0) (wd_47 hw) (wd_46 hw) (by decide) (by decide) (W := 1) (Nat.le_of_ble_eq_true rfl) (by decide) (by decide) (by decide) rfl (argsL := [(.long ((u0).toInt64 - (l0).toInt64))]) (rest := [(.int (64 : Int32))]) pd_2 rfl rfl rfl d5_100 rfl ?_
  rintro _ _ ⟨rfl, rfl⟩
  refine go_st (st' := [(.int ((32 : Int32) + (nlI ((u0).toInt64 - (l0).toInt64).toInt32))), (.int (64 : Int32))]) rfl ?_
  refine go_isub C (pc' := 104) d5_103 rfl ?_
  refine go_st (st' := [(.int w0)]) (by rw [hb0]) ?_
  refine go_istore C (pc' := 106) d5_104 (Ls' := #[(.val (.ref b)), (.val (.ref al)), (.val (.ref ah)), (.val (.int kd)), (.val (.int (4 : Int32))), (.val (.ref b21)), (.val (.int (1 : Int32))), (.val (.int (0 : Int32))), (.val (.int (0 : Int32))), (.val (.int w0))]) rfl rfl ?_
  refine go_iload C (pc' := 108) d5_106 rfl rfl ?_
  refine go_iload C (pc' := 110) d5_108 rfl rfl ?_
  refine go_iadd C (pc' := 111) d5_110 rfl ?_
  refine go_st (st' := [(.int s1)]) (by rw [hs1]) ?_
  refine go_bipush C (pc' := 113) d5_111 (z := (64 : Int32)) (by decide) rfl ?_
  refine go_icmpYes C (pc' := 129) d5_113 (flt hc0).2.2.2 (by decide) (by decide) ?_
  refine go_aloadN C (pc' := 130) d5_129 rfl rfl rfl ?_
  refine gF C (pc' := 133) (wd_40 hw) (((F17.ext E18).other W20 (Or.inr (sn_14 hw).symm)).ext E21) d5_130 rfl ?_
  refine go_iload C (pc' := 135) d5_133 rfl rfl ?_
  refine go_iload C (pc' := 137) d5_135 rfl rfl ?_
  have fx25 := ((((A14.other W17 (ne_i (by omega))).ext E18).other W20 (ne_i (by omega))).ext E21)
  refine go_iaset C (pc' := 138) fx25 (by decide) (i := 0) (by decide) (by simp) (vs' := [(.int (0 : Int32)), (.int (0 : Int32)), (.int (0 : Int32)), (.int (0 : Int32))]) rfl d5_137 rfl n14 ?_
  intro h24 W24 A24
  refine go_old fun O24 => ?_
  refine go_aloadN C (pc' := 139) d5_138 rfl rfl rfl ?_
  refine gF C (pc' := 142) (wd_42 hw) ((F20.ext E21).other W24 (Or.inl (ne_i (by omega)))) d5_139 rfl ?_
  refine go_iload C (pc' := 144) d5_142 rfl rfl ?_
  refine go_lconst C (pc' := 145) d5_144 (z := (1 : Int64)) (by decide) rfl ?_
  refine go_iload C (pc' := 147) d5_145 rfl rfl ?_
  refine go_lshl C (pc' := 148) d5_147 rfl ?_
  refine go_lconst C (pc' := 149) d5_148 (z := (1 : Int64)) (by decide) rfl ?_
  refine go_lsub C (pc' := 150) d5_149 rfl ?_
  refine go_st (st' := [(.long m0), (.int (0 : Int32)), (.ref b18)]) (by rw [hm0]) ?_
  have fx27 := (((A18.other W20 (ne_i (by omega))).ext E21).other W24 (ne_i (by omega)))
  refine go_laset C (pc' := 151) fx27 (by decide) (i := 0) (by decide) (by simp) (vs' := [(.long m0), (.long (0 : Int64)), (.long (0 : Int64)), (.long (0 : Int64))]) rfl d5_150 rfl n18 ?_
  intro h26 W26 A26
  refine go_old fun O26 => ?_
  refine go_iload C (pc' := 153) d5_151 rfl rfl ?_
  refine go_iload C (pc' := 155) d5_153 rfl rfl ?_
  refine go_iadd C (pc' := 156) d5_155 rfl ?_
  refine go_st (st' := [(.int s1)]) (by rw [hs1]) ?_
  refine go_istore C (pc' := 158) d5_156 (Ls' := #[(.val (.ref b)), (.val (.ref al)), (.val (.ref ah)), (.val (.int kd)), (.val (.int (4 : Int32))), (.val (.ref b21)), (.val (.int (1 : Int32))), (.val (.int s1)), (.val (.int (0 : Int32))), (.val (.int w0))]) rfl rfl ?_
  refine gI C (pc' := 161) d5_158 rfl (z := (1 : Int32)) (by decide) (Ls' := #[(.val (.ref b)), (.val (.ref al)), (.val (.ref ah)), (.val (.int kd)), (.val (.int (4 : Int32))), (.val (.ref b21)), (.val (.int (1 : Int32))), (.val (.int s1)), (.val (.int (1 : Int32))), (.val (.int w0))]) rfl rfl ?_
  refine go_goto C (pc' := 80) d5_161 (by decide) (by decide) ?_
  refine go_iload C (pc' := 82) d5_80 rfl rfl ?_
  refine go_iload C (pc' := 84) d5_82 rfl rfl ?_
  refine go_icmpNo C (pc' := 87) d5_84 (by decide) rfl ?_
  refine go_bipush C (pc' := 89) d5_87 (z := (64 : Int32)) (by decide) rfl ?_
  refine go_aloadN C (pc' := 90) d5_89 rfl rfl rfl ?_
  refine go_iload C (pc' := 92) d5_90 rfl rfl ?_
  refine go_iaget C (pc' := 93) ((fx22.other W24 (ne_i (by omega))).other W26 (ne_i (by omega))) (by decide) (i := 1) (by decide) rfl d5_92 rfl ?_
  refine go_i2l C (pc' := 94) d5_93 rfl ?_
  refine go_aloadN C (pc' := 95) d5_94 rfl rfl rfl ?_
  refine go_iload C (pc' := 97) d5_95 rfl rfl ?_
  refine go_iaget C (pc' := 98) ((fx23.other W24 (ne_i (by omega))).other W26 (ne_i (by omega))) (by decide) (i := 1) (by decide) rfl d5_97 rfl ?_
  refine go_i2l C (pc' := 99) d5_98 rfl ?_
  refine go_lsub C (pc' := 100) d5_99 rfl ?_
  refine go_callS C (pc' := 103) (y' := (⟨"java/lang/Long", "numberOfLeadingZeros", "(J)I"⟩ : MethodName)) (wd_44 hw) (wd_45 hw) (nlzL_met l Z a0 hw _ _ O26 ((u1).toInt64 - (l1).toInt64) hz1) (wd_47 hw) (wd_46 hw) (by decide) (by decide) (W := 1) (Nat.le_of_ble_eq_true rfl) (by decide) (by decide) (by decide) rfl (argsL := [(.long ((u1).toInt64 - (l1).toInt64))]) (rest := [(.int (64 : Int32))]) pd_2 rfl rfl rfl d5_100 rfl ?_
  rintro _ _ ⟨rfl, rfl⟩
  refine go_st (st' := [(.int ((32 : Int32) + (nlI ((u1).toInt64 - (l1).toInt64).toInt32))), (.int (64 : Int32))]) rfl ?_
  refine go_isub C (pc' := 104) d5_103 rfl ?_
  refine go_st (st' := [(.int w1)]) (by rw [hb1]) ?_
  refine go_istore C (pc' := 106) d5_104 (Ls' := #[(.val (.ref b)), (.val (.ref al)), (.val (.ref ah)), (.val (.int kd)), (.val (.int (4 : Int32))), (.val (.ref b21)), (.val (.int (1 : Int32))), (.val (.int s1)), (.val (.int (1 : Int32))), (.val (.int w1))]) rfl rfl ?_
  refine go_iload C (pc' := 108) d5_106 rfl rfl ?_
  refine go_iload C (pc' := 110) d5_108 rfl rfl ?_
  refine go_iadd C (pc' := 111) d5_110 rfl ?_
  refine go_st (st' := [(.int s2)]) (by rw [hs2]) ?_
  refine go_bipush C (pc' := 113) d5_111 (z := (64 : Int32)) (by decide) rfl ?_
  refine go_icmpYes C (pc' := 129) d5_113 (flt hc1).2.2.2 (by decide) (by decide) ?_
  refine go_aloadN C (pc' := 130) d5_129 rfl rfl rfl ?_
  have fx28 := (((((F17.ext E18).other W20 (Or.inr (sn_14 hw).symm)).ext E21).other W24 (Or.inl (ne_i (by omega)))).other W26 (Or.inl (ne_i (by omega))))
  refine gF C (pc' := 133) (wd_40 hw) fx28 d5_130 rfl ?_
  refine go_iload C (pc' := 135) d5_133 rfl rfl ?_
  refine go_iload C (pc' := 137) d5_135 rfl rfl ?_
  refine go_iaset C (pc' := 138) (A24.other W26 (ne_i (by omega))) (by decide) (i := 1) (by decide) (by simp) (vs' := [(.int (0 : Int32)), (.int s1), (.int (0 : Int32)), (.int (0 : Int32))]) rfl d5_137 rfl n14 ?_
  intro h29 W29 A29
  refine go_old fun O29 => ?_
  refine go_aloadN C (pc' := 139) d5_138 rfl rfl rfl ?_
  have fx30 := ((((F20.ext E21).other W24 (Or.inl (ne_i (by omega)))).other W26 (Or.inl (ne_i (by omega)))).other W29 (Or.inl (ne_i (by omega))))
  refine gF C (pc' := 142) (wd_42 hw) fx30 d5_139 rfl ?_
  refine go_iload C (pc' := 144) d5_142 rfl rfl ?_
  refine go_lconst C (pc' := 145) d5_144 (z := (1 : Int64)) (by decide) rfl ?_
  refine go_iload C (pc' := 147) d5_145 rfl rfl ?_
  refine go_lshl C (pc' := 148) d5_147 rfl ?_
  refine go_lconst C (pc' := 149) d5_148 (z := (1 : Int64)) (by decide) rfl ?_
  refine go_lsub C (pc' := 150) d5_149 rfl ?_
  refine go_st (st' := [(.long m1), (.int (1 : Int32)), (.ref b18)]) (by rw [hm1]) ?_
  refine go_laset C (pc' := 151) (A26.other W29 (ne_i (by omega))) (by decide) (i := 1) (by decide) (by simp) (vs' := [(.long m0), (.long m1), (.long (0 : Int64)), (.long (0 : Int64))]) rfl d5_150 rfl n18 ?_
  intro h31 W31 A31
  refine go_old fun O31 => ?_
  refine go_iload C (pc' := 153) d5_151 rfl rfl ?_
  refine go_iload C (pc' := 155) d5_153 rfl rfl ?_
  refine go_iadd C (pc' := 156) d5_155 rfl ?_
  refine go_st (st' := [(.int s2)]) (by rw [hs2]) ?_
  refine go_istore C (pc' := 158) d5_156 (Ls' := #[(.val (.ref b)), (.val (.ref al)), (.val (.ref ah)), (.val (.int kd)), (.val (.int (4 : Int32))), (.val (.ref b21)), (.val (.int (1 : Int32))), (.val (.int s2)), (.val (.int (1 : Int32))), (.val (.int w1))]) rfl rfl ?_
  refine gI C (pc' := 161) d5_158 rfl (z := (2 : Int32)) (by decide) (Ls' := #[(.val (.ref b)), (.val (.ref al)), (.val (.ref ah)), (.val (.int kd)), (.val (.int (4 : Int32))), (.val (.ref b21)), (.val (.int (1 : Int32))), (.val (.int s2)), (.val (.int (2 : Int32))), (.val (.int w1))]) rfl rfl ?_
  refine go_goto C (pc' := 80) d5_161 (by decide) (by decide) ?_
  refine go_iload C (pc' := 82) d5_80 rfl rfl ?_
  refine go_iload C (pc' := 84) d5_82 rfl rfl ?_
  refine go_icmpNo C (pc' := 87) d5_84 (by decide) rfl ?_
  refine go_bipush C (pc' := 89) d5_87 (z := (64 : Int32)) (by decide) rfl ?_
  refine go_aloadN C (pc' := 90) d5_89 rfl rfl rfl ?_
  refine go_iload C (pc' := 92) d5_90 rfl rfl ?_
  have fx32 := ((((fx22.other W24 (ne_i (by omega))).other W26 (ne_i (by omega))).other W29 (ne_i (by omega))).other W31 (ne_i (by omega)))
  refine go_iaget C (pc' := 93) fx32 (by decide) (i := 2) (by decide) rfl d5_92 rfl ?_
  refine go_i2l C (pc' := 94) d5_93 rfl ?_
  refine go_aloadN C (pc' := 95) d5_94 rfl rfl rfl ?_
  refine go_iload C (pc' := 97) d5_95 rfl rfl ?_
  have fx33 := ((((fx23.other W24 (ne_i (by omega))).other W26 (ne_i (by omega))).other W29 (ne_i (by omega))).other W31 (ne_i (by omega)))
  refine go_iaget C (pc' := 98) fx33 (by decide) (i := 2) (by decide) rfl d5_97 rfl ?_
  refine go_i2l C (pc' := 99) d5_98 rfl ?_
  refine go_lsub C (pc' := 100) d5_99 rfl ?_
  refine go_callS C (pc' := 103) (y' := (⟨"java/lang/Long", "numberOfLeadingZeros", "(J)I"⟩ : MethodName)) (wd_44 hw) (wd_45 hw) (nlzL_met l Z a0 hw _ _ O31 ((u2).toInt64 - (l2).toInt64) hz2) (wd_47 hw) (wd_46 hw) (by decide) (by decide) (W := 1) (Nat.le_of_ble_eq_true rfl) (by decide) (by decide) (by decide) rfl (argsL := [(.long ((u2).toInt64 - (l2).toInt64))]) (rest := [(.int (64 : Int32))]) pd_2 rfl rfl rfl d5_100 rfl ?_
  rintro _ _ ⟨rfl, rfl⟩
  refine go_st (st' := [(.int ((32 : Int32) + (nlI ((u2).toInt64 - (l2).toInt64).toInt32))), (.int (64 : Int32))]) rfl ?_
  refine go_isub C (pc' := 104) d5_103 rfl ?_
  refine go_st (st' := [(.int w2)]) (by rw [hb2]) ?_
  refine go_istore C (pc' := 106) d5_104 (Ls' := #[(.val (.ref b)), (.val (.ref al)), (.val (.ref ah)), (.val (.int kd)), (.val (.int (4 : Int32))), (.val (.ref b21)), (.val (.int (1 : Int32))), (.val (.int s2)), (.val (.int (2 : Int32))), (.val (.int w2))]) rfl rfl ?_
  refine go_iload C (pc' := 108) d5_106 rfl rfl ?_
  refine go_iload C (pc' := 110) d5_108 rfl rfl ?_
  refine go_iadd C (pc' := 111) d5_110 rfl ?_
  refine go_st (st' := [(.int s3)]) (by rw [hs3]) ?_
  refine go_bipush C (pc' := 113) d5_111 (z := (64 : Int32)) (by decide) rfl ?_
  refine go_icmpYes C (pc' := 129) d5_113 (flt hc2).2.2.2 (by decide) (by decide) ?_
  refine go_aloadN C (pc' := 130) d5_129 rfl rfl rfl ?_
  have fx34 := ((fx28.other W29 (Or.inl (ne_i (by omega)))).other W31 (Or.inl (ne_i (by omega))))
  refine gF C (pc' := 133) (wd_40 hw) fx34 d5_130 rfl ?_
  refine go_iload C (pc' := 135) d5_133 rfl rfl ?_
  refine go_iload C (pc' := 137) d5_135 rfl rfl ?_
  refine go_iaset C (pc' := 138) (A29.other W31 (ne_i (by omega))) (by decide) (i := 2) (by decide) (by simp) (vs' := [(.int (0 : Int32)), (.int s1), (.int s2), (.int (0 : Int32))]) rfl d5_137 rfl n14 ?_
  intro h35 W35 A35
  refine go_old fun O35 => ?_
  refine go_aloadN C (pc' := 139) d5_138 rfl rfl rfl ?_
  have fx36 := ((fx30.other W31 (Or.inl (ne_i (by omega)))).other W35 (Or.inl (ne_i (by omega))))
  refine gF C (pc' := 142) (wd_42 hw) fx36 d5_139 rfl ?_
  refine go_iload C (pc' := 144) d5_142 rfl rfl ?_
  refine go_lconst C (pc' := 145) d5_144 (z := (1 : Int64)) (by decide) rfl ?_
  refine go_iload C (pc' := 147) d5_145 rfl rfl ?_
  refine go_lshl C (pc' := 148) d5_147 rfl ?_
  refine go_lconst C (pc' := 149) d5_148 (z := (1 : Int64)) (by decide) rfl ?_
  refine go_lsub C (pc' := 150) d5_149 rfl ?_
  refine go_st (st' := [(.long m2), (.int (2 : Int32)), (.ref b18)]) (by rw [hm2]) ?_
  refine go_laset C (pc' := 151) (A31.other W35 (ne_i (by omega))) (by decide) (i := 2) (by decide) (by simp) (vs' := [(.long m0), (.long m1), (.long m2), (.long (0 : Int64))]) rfl d5_150 rfl n18 ?_
  intro h37 W37 A37
  refine go_old fun O37 => ?_
  refine go_iload C (pc' := 153) d5_151 rfl rfl ?_
  refine go_iload C (pc' := 155) d5_153 rfl rfl ?_
  refine go_iadd C (pc' := 156) d5_155 rfl ?_
  refine go_st (st' := [(.int s3)]) (by rw [hs3]) ?_
  refine go_istore C (pc' := 158) d5_156 (Ls' := #[(.val (.ref b)), (.val (.ref al)), (.val (.ref ah)), (.val (.int kd)), (.val (.int (4 : Int32))), (.val (.ref b21)), (.val (.int (1 : Int32))), (.val (.int s3)), (.val (.int (2 : Int32))), (.val (.int w2))]) rfl rfl ?_
  refine gI C (pc' := 161) d5_158 rfl (z := (3 : Int32)) (by decide) (Ls' := #[(.val (.ref b)), (.val (.ref al)), (.val (.ref ah)), (.val (.int kd)), (.val (.int (4 : Int32))), (.val (.ref b21)), (.val (.int (1 : Int32))), (.val (.int s3)), (.val (.int (3 : Int32))), (.val (.int w2))]) rfl rfl ?_
  refine go_goto C (pc' := 80) d5_161 (by decide) (by decide) ?_
  refine go_iload C (pc' := 82) d5_80 rfl rfl ?_
  refine go_iload C (pc' := 84) d5_82 rfl rfl ?_
  refine go_icmpNo C (pc' := 87) d5_84 (by decide) rfl ?_
  refine go_bipush C (pc' := 89) d5_87 (z := (64 : Int32)) (by decide) rfl ?_
  refine go_aloadN C (pc' := 90) d5_89 rfl rfl rfl ?_
  refine go_iload C (pc' := 92) d5_90 rfl rfl ?_
  refine go_iaget C (pc' := 93) ((fx32.other W35 (ne_i (by omega))).other W37 (ne_i (by omega))) (by decide) (i := 3) (by decide) rfl d5_92 rfl ?_
  refine go_i2l C (pc' := 94) d5_93 rfl ?_
  refine go_aloadN C (pc' := 95) d5_94 rfl rfl rfl ?_
  refine go_iload C (pc' := 97) d5_95 rfl rfl ?_
  refine go_iaget C (pc' := 98) ((fx33.other W35 (ne_i (by omega))).other W37 (ne_i (by omega))) (by decide) (i := 3) (by decide) rfl d5_97 rfl ?_
  refine go_i2l C (pc' := 99) d5_98 rfl ?_
  refine go_lsub C (pc' := 100) d5_99 rfl ?_
  refine go_callS C (pc' := 103) (y' := (⟨"java/lang/Long", "numberOfLeadingZeros", "(J)I"⟩ : MethodName)) (wd_44 hw) (wd_45 hw) (nlzL_met l Z a0 hw _ _ O37 ((u3).toInt64 - (l3).toInt64) hz3) (wd_47 hw) (wd_46 hw) (by decide) (by decide) (W := 1) (Nat.le_of_ble_eq_true rfl) (by decide) (by decide) (by decide) rfl (argsL := [(.long ((u3).toInt64 - (l3).toInt64))]) (rest := [(.int (64 : Int32))]) pd_2 rfl rfl rfl d5_100 rfl ?_
  rintro _ _ ⟨rfl, rfl⟩
  refine go_st (st' := [(.int ((32 : Int32) + (nlI ((u3).toInt64 - (l3).toInt64).toInt32))), (.int (64 : Int32))]) rfl ?_
  refine go_isub C (pc' := 104) d5_103 rfl ?_
  refine go_st (st' := [(.int w3)]) (by rw [hb3]) ?_
  refine go_istore C (pc' := 106) d5_104 (Ls' := #[(.val (.ref b)), (.val (.ref al)), (.val (.ref ah)), (.val (.int kd)), (.val (.int (4 : Int32))), (.val (.ref b21)), (.val (.int (1 : Int32))), (.val (.int s3)), (.val (.int (3 : Int32))), (.val (.int w3))]) rfl rfl ?_
  refine go_iload C (pc' := 108) d5_106 rfl rfl ?_
  refine go_iload C (pc' := 110) d5_108 rfl rfl ?_
  refine go_iadd C (pc' := 111) d5_110 rfl ?_
  refine go_bipush C (pc' := 113) d5_111 (z := (64 : Int32)) (by decide) rfl ?_
  refine go_icmpNo C (pc' := 116) d5_113 (tlt hc3).2.2.2 rfl ?_
  refine go_aload C (pc' := 118) d5_116 rfl rfl rfl ?_
  refine go_iload C (pc' := 120) d5_118 rfl rfl ?_
  refine gI C (pc' := 123) d5_120 rfl (z := (2 : Int32)) (by decide) (Ls' := #[(.val (.ref b)), (.val (.ref al)), (.val (.ref ah)), (.val (.int kd)), (.val (.int (4 : Int32))), (.val (.ref b21)), (.val (.int (2 : Int32))), (.val (.int s3)), (.val (.int (3 : Int32))), (.val (.int w3))]) rfl rfl ?_
  refine go_iload C (pc' := 125) d5_123 rfl rfl ?_
  have fx39 := ((((((A21.other W24 (ne_i (by omega))).other W26 (ne_i (by omega))).other W29 (ne_i (by omega))).other W31 (ne_i (by omega))).other W35 (ne_i (by omega))).other W37 (ne_i (by omega)))
  refine go_iaset C (pc' := 126) fx39 (by decide) (i := 1) (by decide) (by simp) (vs' := [(.int (0 : Int32)), (.int (3 : Int32)), (.int (0 : Int32)), (.int (0 : Int32)), (.int (0 : Int32)), (.int (0 : Int32))]) rfl d5_125 rfl n21 ?_
  intro h38 W38 A38
  refine go_old fun O38 => ?_
  refine go_iconst C (pc' := 127) d5_126 (z := (0 : Int32)) (by decide) rfl ?_
  refine go_istore C (pc' := 129) d5_127 (Ls' := #[(.val (.ref b)), (.val (.ref al)), (.val (.ref ah)), (.val (.int kd)), (.val (.int (4 : Int32))), (.val (.ref b21)), (.val (.int (2 : Int32))), (.val (.int (0 : Int32))), (.val (.int (3 : Int32))), (.val (.int w3))]) rfl rfl ?_
  refine go_aloadN C (pc' := 130) d5_129 rfl rfl rfl ?_
  have fx40 := (((fx34.other W35 (Or.inl (ne_i (by omega)))).other W37 (Or.inl (ne_i (by omega)))).other W38 (Or.inl (ne_i (by omega))))
  refine gF C (pc' := 133) (wd_40 hw) fx40 d5_130 rfl ?_
  refine go_iload C (pc' := 135) d5_133 rfl rfl ?_
  refine go_iload C (pc' := 137) d5_135 rfl rfl ?_
  refine go_iaset C (pc' := 138) ((A35.other W37 (ne_i (by omega))).other W38 (ne_i (by omega))) (by decide) (i := 3) (by decide) (by simp) (vs' := [(.int (0 : Int32)), (.int s1), (.int s2), (.int (0 : Int32))]) rfl d5_137 rfl n14 ?_
  intro h41 W41 A41
  refine go_old fun O41 => ?_
  refine go_aloadN C (pc' := 139) d5_138 rfl rfl rfl ?_
  have fx42 := (((fx36.other W37 (Or.inl (ne_i (by omega)))).other W38 (Or.inl (ne_i (by omega)))).other W41 (Or.inl (ne_i (by omega))))
  refine gF C (pc' := 142) (wd_42 hw) fx42 d5_139 rfl ?_
  refine go_iload C (pc' := 144) d5_142 rfl rfl ?_
  refine go_lconst C (pc' := 145) d5_144 (z := (1 : Int64)) (by decide) rfl ?_
  refine go_iload C (pc' := 147) d5_145 rfl rfl ?_
  refine go_lshl C (pc' := 148) d5_147 rfl ?_
  refine go_lconst C (pc' := 149) d5_148 (z := (1 : Int64)) (by decide) rfl ?_
  refine go_lsub C (pc' := 150) d5_149 rfl ?_
  refine go_st (st' := [(.long m3), (.int (3 : Int32)), (.ref b18)]) (by rw [hm3]) ?_
  refine go_laset C (pc' := 151) ((A37.other W38 (ne_i (by omega))).other W41 (ne_i (by omega))) (by decide) (i := 3) (by decide) (by simp) (vs' := [(.long m0), (.long m1), (.long m2), (.long m3)]) rfl d5_150 rfl n18 ?_
  intro h43 W43 A43
  refine go_old fun O43 => ?_
  refine go_iload C (pc' := 153) d5_151 rfl rfl ?_
  refine go_iload C (pc' := 155) d5_153 rfl rfl ?_
  refine go_iadd C (pc' := 156) d5_155 rfl ?_
  refine go_istore C (pc' := 158) d5_156 (Ls' := #[(.val (.ref b)), (.val (.ref al)), (.val (.ref ah)), (.val (.int kd)), (.val (.int (4 : Int32))), (.val (.ref b21)), (.val (.int (2 : Int32))), (.val (.int ((0 : Int32) + w3))), (.val (.int (3 : Int32))), (.val (.int w3))]) rfl rfl ?_
  refine gI C (pc' := 161) d5_158 rfl (z := (4 : Int32)) (by decide) (Ls' := #[(.val (.ref b)), (.val (.ref al)), (.val (.ref ah)), (.val (.int kd)), (.val (.int (4 : Int32))), (.val (.ref b21)), (.val (.int (2 : Int32))), (.val (.int ((0 : Int32) + w3))), (.val (.int (4 : Int32))), (.val (.int w3))]) rfl rfl ?_
  refine go_goto C (pc' := 80) d5_161 (by decide) (by decide) ?_
  refine go_iload C (pc' := 82) d5_80 rfl rfl ?_
  refine go_iload C (pc' := 84) d5_82 rfl rfl ?_
  refine go_icmpYes C (pc' := 164) d5_84 (by decide) (by decide) (by decide) ?_
  refine go_aload C (pc' := 166) d5_164 rfl rfl rfl ?_
  refine go_iload C (pc' := 168) d5_166 rfl rfl ?_
  refine go_iload C (pc' := 170) d5_168 rfl rfl ?_
  refine go_iaset C (pc' := 171) ((A38.other W41 (ne_i (by omega))).other W43 (ne_i (by omega))) (by decide) (i := 2) (by decide) (by simp) (vs' := [(.int (0 : Int32)), (.int (3 : Int32)), (.int (4 : Int32)), (.int (0 : Int32)), (.int (0 : Int32)), (.int (0 : Int32))]) rfl d5_170 rfl n21 ?_
  intro h44 W44 A44
  refine go_old fun O44 => ?_
  refine go_aloadN C (pc' := 172) d5_171 rfl rfl rfl ?_
  refine go_aload C (pc' := 174) d5_172 rfl rfl rfl ?_
  refine go_iload C (pc' := 176) d5_174 rfl rfl ?_
  refine go_iconst C (pc' := 177) d5_176 (z := (1 : Int32)) (by decide) rfl ?_
  refine go_iadd C (pc' := 178) d5_177 rfl ?_
  refine go_st (st' := [(.int (3 : Int32)), (.ref b21), (.ref b)]) (by rw [show ((2 : Int32) + (1 : Int32)) = (3 : Int32) from by decide]) ?_
  refine go_callS C (pc' := 181) (y' := (⟨"java/util/Arrays", "copyOf", "([II)[I"⟩ : MethodName)) (wd_53 hw) (wd_54 hw) (copyOf2_met l Z a0 hw _ _ O44 A44) (wd_56 hw) (wd_55 hw) (by decide) (by decide) (W := 1) (Nat.le_of_ble_eq_true rfl) (by decide) (by decide) (by decide) rfl (argsL := [(.ref b21), (.int (3 : Int32))]) (rest := [(.ref b)]) pd_3 rfl rfl rfl d5_178 rfl ?_
  rintro _ h45 ⟨fi, kfi, rfl, ltfi, Kfi, Afi⟩
  refine go_st (st' := [(.ref fi), (.ref b)]) rfl ?_
  refine go_old fun O45 => ?_
  have fx46 := ((((((((((((((((((((((((F_b_firstInt.ext E1).other W2 (Or.inr (sn_15 hw))).ext E3).other W4 (Or.inr (sn_16 hw))).ext E5).other W8 (Or.inr (sn_17 hw))).ext E9).other W12 (Or.inr (sn_18 hw))).ext E14).other W17 (Or.inr (sn_19 hw))).ext E18).other W20 (Or.inr (sn_20 hw))).ext E21).other W24 (Or.inl (ne_i (by omega)))).other W26 (Or.inl (ne_i (by omega)))).other W29 (Or.inl (ne_i (by omega)))).other W31 (Or.inl (ne_i (by omega)))).other W35 (Or.inl (ne_i (by omega)))).other W37 (Or.inl (ne_i (by omega)))).other W38 (Or.inl (ne_i (by omega)))).other W41 (Or.inl (ne_i (by omega)))).other W43 (Or.inl (ne_i (by omega)))).other W44 (Or.inl (ne_i (by omega)))).keep Kfi nin0)
  have fx47 := (((((((((((((((fx16.wr W17).ext E18).wr W20).ext E21).wr W24).wr W26).wr W29).wr W31).wr W35).wr W37).wr W38).wr W41).wr W43).wr W44).keep Kfi)
  refine go_putF C (pc' := 184) (host := "") (Or.inl (wd_62 hw)) Via.refl fx46 fx47 (Or.inr ⟨(wd_63 hw), rfl, rfl⟩) (wd_12 hw) (ty := (.array .int)) (by decide) rfl rfl d5_181 rfl nb ?_
  intro h48 W48 F48
  refine go_old fun O48 => ?_
  refine go_aloadN C (pc' := 185) d5_184 rfl rfl rfl ?_
  refine go_iload C (pc' := 187) d5_185 rfl rfl ?_
  have fx49 := (((((((((((((((((((((((((F_b_words.ext E1).other W2 (Or.inr (sn_21 hw))).ext E3).other W4 (Or.inr (sn_22 hw))).ext E5).other W8 (Or.inr (sn_23 hw))).ext E9).other W12 (Or.inr (sn_24 hw))).ext E14).other W17 (Or.inr (sn_25 hw))).ext E18).other W20 (Or.inr (sn_26 hw))).ext E21).other W24 (Or.inl (ne_i (by omega)))).other W26 (Or.inl (ne_i (by omega)))).other W29 (Or.inl (ne_i (by omega)))).other W31 (Or.inl (ne_i (by omega)))).other W35 (Or.inl (ne_i (by omega)))).other W37 (Or.inl (ne_i (by omega)))).other W38 (Or.inl (ne_i (by omega)))).other W41 (Or.inl (ne_i (by omega)))).other W43 (Or.inl (ne_i (by omega)))).other W44 (Or.inl (ne_i (by omega)))).keep Kfi nin0).other W48 (Or.inr (sn_27 hw)))
  refine go_putF C (pc' := 190) (host := "") (Or.inl (wd_64 hw)) Via.refl fx49 (fx47.wr W48) (Or.inr ⟨(wd_65 hw), rfl, rfl⟩) (wd_12 hw) (ty := .int) (by decide) rfl rfl d5_187 rfl nb ?_
  intro h50 W50 F50
  refine go_old fun O50 => ?_
  refine go_aloadN C (pc' := 191) d5_190 rfl rfl rfl ?_
  refine go_aloadN C (pc' := 192) d5_191 rfl rfl rfl ?_
  refine gF C (pc' := 195) (wd_64 hw) F50 d5_192 rfl ?_
  refine go_newPA C (pc' := 197) (len := 2) (ty := .long) rfl (wd_24 hw) d5_195 rfl (by decide) (by decide) (by decide) (by decide) (by decide) ?_
  intro h51 b51 k51 g51 n51 E51 A51
  have sz_b51 := Nat.le_trans (Nat.le_trans (Nat.le_trans (Nat.le_trans (Nat.le_trans (Nat.le_trans (Nat.le_trans (Nat.le_trans (Nat.le_trans (Nat.le_trans (Nat.le_trans (Nat.le_trans (Nat.le_trans (Nat.le_trans (Nat.le_trans (Nat.le_trans (Nat.le_trans (Nat.le_trans (Nat.le_trans (Nat.le_trans (Nat.le_trans (Nat.le_trans (Nat.le_trans (Nat.le_trans (Nat.le_trans (Nat.le_trans (Nat.le_trans (Nat.le_refl _) E1.1) (Nat.le_of_eq W2.size.symm)) E3.1) (Nat.le_of_eq W4.size.symm)) E5.1) (Nat.le_of_eq W8.size.symm)) E9.1) (Nat.le_of_eq W12.size.symm)) E14.1) (Nat.le_of_eq W17.size.symm)) E18.1) (Nat.le_of_eq W20.size.symm)) E21.1) (Nat.le_of_eq W24.size.symm)) (Nat.le_of_eq W26.size.symm)) (Nat.le_of_eq W29.size.symm)) (Nat.le_of_eq W31.size.symm)) (Nat.le_of_eq W35.size.symm)) (Nat.le_of_eq W37.size.symm)) (Nat.le_of_eq W38.size.symm)) (Nat.le_of_eq W41.size.symm)) (Nat.le_of_eq W43.size.symm)) (Nat.le_of_eq W44.size.symm)) Kfi.1) (Nat.le_of_eq W48.size.symm)) (Nat.le_of_eq W50.size.symm)) (Nat.le_of_eq g51.symm)
  have lt_b51 : @LT.lt Nat _ fi b51 := by rw [g51]; exact ((Afi.other W48 (ne_i (by omega))).other W50 (ne_i (by omega))).lt
  refine go_old fun O51 => ?_
  have fx52 := (((((((((((((((((((((((((((F_b_keyMask.ext E1).other W2 (Or.inr (sn_28 hw))).ext E3).other W4 (Or.inr (sn_29 hw))).ext E5).other W8 (Or.inr (sn_30 hw))).ext E9).other W12 (Or.inr (sn_31 hw))).ext E14).other W17 (Or.inr (sn_32 hw))).ext E18).other W20 (Or.inr (sn_33 hw))).ext E21).other W24 (Or.inl (ne_i (by omega)))).other W26 (Or.inl (ne_i (by omega)))).other W29 (Or.inl (ne_i (by omega)))).other W31 (Or.inl (ne_i (by omega)))).other W35 (Or.inl (ne_i (by omega)))).other W37 (Or.inl (ne_i (by omega)))).other W38 (Or.inl (ne_i (by omega)))).other W41 (Or.inl (ne_i (by omega)))).other W43 (Or.inl (ne_i (by omega)))).other W44 (Or.inl (ne_i (by omega)))).keep Kfi nin0).other W48 (Or.inr (sn_34 hw))).other W50 (Or.inr (sn_35 hw))).ext E51)
  refine go_putF C (pc' := 200) (host := "") (Or.inl (wd_66 hw)) Via.refl fx52 (((fx47.wr W48).wr W50).ext E51) (Or.inr ⟨(wd_67 hw), rfl, rfl⟩) (wd_12 hw) (ty := (.array .long)) (by decide) rfl rfl d5_197 rfl nb ?_
  intro h53 W53 F53
  refine go_old fun O53 => ?_
  have fx54 := (((((((((((fx33.other W35 (ne_i (by omega))).other W37 (ne_i (by omega))).other W38 (ne_i (by omega))).other W41 (ne_i (by omega))).other W43 (ne_i (by omega))).other W44 (ne_i (by omega))).keep Kfi nin0).other W48 (ne_i (by omega))).other W50 (ne_i (by omega))).ext E51).other W53 (ne_i (by omega)))
  have fx55 := (((((((((((fx32.other W35 (ne_i (by omega))).other W37 (ne_i (by omega))).other W38 (ne_i (by omega))).other W41 (ne_i (by omega))).other W43 (ne_i (by omega))).other W44 (ne_i (by omega))).keep Kfi nin0).other W48 (ne_i (by omega))).other W50 (ne_i (by omega))).ext E51).other W53 (ne_i (by omega)))
  have fx56 := ((((((((((((((((((((((((((((Eal.ext E1).wr W2).ext E3).wr W4).ext E5).wr W8).ext E9).wr W12).ext E14).wr W17).ext E18).wr W20).ext E21).wr W24).wr W26).wr W29).wr W31).wr W35).wr W37).wr W38).wr W41).wr W43).wr W44).keep Kfi).wr W48).wr W50).ext E51).wr W53)
  have fx57 := ((((((((((((((((((((((((((((Eah.ext E1).wr W2).ext E3).wr W4).ext E5).wr W8).ext E9).wr W12).ext E14).wr W17).ext E18).wr W20).ext E21).wr W24).wr W26).wr W29).wr W31).wr W35).wr W37).wr W38).wr W41).wr W43).wr W44).keep Kfi).wr W48).wr W50).ext E51).wr W53)
  have fx58 := ((((((((((((((((((((((F8.ext E9).other W12 (Or.inr (sn_5 hw).symm)).ext E14).other W17 (Or.inr (sn_8 hw).symm)).ext E18).other W20 (Or.inr (sn_12 hw).symm)).ext E21).other W24 (Or.inl (ne_i (by omega)))).other W26 (Or.inl (ne_i (by omega)))).other W29 (Or.inl (ne_i (by omega)))).other W31 (Or.inl (ne_i (by omega)))).other W35 (Or.inl (ne_i (by omega)))).other W37 (Or.inl (ne_i (by omega)))).other W38 (Or.inl (ne_i (by omega)))).other W41 (Or.inl (ne_i (by omega)))).other W43 (Or.inl (ne_i (by omega)))).other W44 (Or.inl (ne_i (by omega)))).keep Kfi nin0).other W48 (Or.inr (sn_17 hw).symm)).other W50 (Or.inr (sn_23 hw).symm)).ext E51).other W53 (Or.inr (sn_30 hw).symm))
  have fx59 := ((((((((((((((((((((F12.ext E14).other W17 (Or.inr (sn_9 hw).symm)).ext E18).other W20 (Or.inr (sn_13 hw).symm)).ext E21).other W24 (Or.inl (ne_i (by omega)))).other W26 (Or.inl (ne_i (by omega)))).other W29 (Or.inl (ne_i (by omega)))).other W31 (Or.inl (ne_i (by omega)))).other W35 (Or.inl (ne_i (by omega)))).other W37 (Or.inl (ne_i (by omega)))).other W38 (Or.inl (ne_i (by omega)))).other W41 (Or.inl (ne_i (by omega)))).other W43 (Or.inl (ne_i (by omega)))).other W44 (Or.inl (ne_i (by omega)))).keep Kfi nin0).other W48 (Or.inr (sn_18 hw).symm)).other W50 (Or.inr (sn_24 hw).symm)).ext E51).other W53 (Or.inr (sn_31 hw).symm))
  have fx60 := (((F48.other W50 (Or.inr (sn_27 hw).symm)).ext E51).other W53 (Or.inr (sn_34 hw).symm))
  have fx61 := ((((((((fx40.other W41 (Or.inl (ne_i (by omega)))).other W43 (Or.inl (ne_i (by omega)))).other W44 (Or.inl (ne_i (by omega)))).keep Kfi nin0).other W48 (Or.inr (sn_19 hw).symm)).other W50 (Or.inr (sn_25 hw).symm)).ext E51).other W53 (Or.inr (sn_32 hw).symm))
  have fx62 := (((((((fx42.other W43 (Or.inl (ne_i (by omega)))).other W44 (Or.inl (ne_i (by omega)))).keep Kfi nin0).other W48 (Or.inr (sn_20 hw).symm)).other W50 (Or.inr (sn_26 hw).symm)).ext E51).other W53 (Or.inr (sn_33 hw).symm))
  have fx63 := ((((((((((((((((((((((((((((F_b_pageShift.ext E1).other W2 (Or.inr (sn_36 hw))).ext E3).other W4 (Or.inr (sn_37 hw))).ext E5).other W8 (Or.inr (sn_38 hw))).ext E9).other W12 (Or.inr (sn_39 hw))).ext E14).other W17 (Or.inr (sn_40 hw))).ext E18).other W20 (Or.inr (sn_41 hw))).ext E21).other W24 (Or.inl (ne_i (by omega)))).other W26 (Or.inl (ne_i (by omega)))).other W29 (Or.inl (ne_i (by omega)))).other W31 (Or.inl (ne_i (by omega)))).other W35 (Or.inl (ne_i (by omega)))).other W37 (Or.inl (ne_i (by omega)))).other W38 (Or.inl (ne_i (by omega)))).other W41 (Or.inl (ne_i (by omega)))).other W43 (Or.inl (ne_i (by omega)))).other W44 (Or.inl (ne_i (by omega)))).keep Kfi nin0).other W48 (Or.inr (sn_42 hw))).other W50 (Or.inr (sn_43 hw))).ext E51).other W53 (Or.inr (sn_44 hw)))
  have fx64 := ((((((((((((((((((((((((((F2.ext E3).other W4 (Or.inr (sn_0 hw).symm)).ext E5).other W8 (Or.inr (sn_1 hw).symm)).ext E9).other W12 (Or.inr (sn_3 hw).symm)).ext E14).other W17 (Or.inr (sn_6 hw).symm)).ext E18).other W20 (Or.inr (sn_10 hw).symm)).ext E21).other W24 (Or.inl (ne_i (by omega)))).other W26 (Or.inl (ne_i (by omega)))).other W29 (Or.inl (ne_i (by omega)))).other W31 (Or.inl (ne_i (by omega)))).other W35 (Or.inl (ne_i (by omega)))).other W37 (Or.inl (ne_i (by omega)))).other W38 (Or.inl (ne_i (by omega)))).other W41 (Or.inl (ne_i (by omega)))).other W43 (Or.inl (ne_i (by omega)))).other W44 (Or.inl (ne_i (by omega)))).keep Kfi nin0).other W48 (Or.inr (sn_15 hw).symm)).other W50 (Or.inr (sn_21 hw).symm)).ext E51).other W53 (Or.inr (sn_28 hw).symm))
  have fx65 := ((((((((((((((((((((((((((((F_b_size.ext E1).other W2 (Or.inr (sn_45 hw))).ext E3).other W4 (Or.inr (sn_46 hw))).ext E5).other W8 (Or.inr (sn_47 hw))).ext E9).other W12 (Or.inr (sn_48 hw))).ext E14).other W17 (Or.inr (sn_49 hw))).ext E18).other W20 (Or.inr (sn_50 hw))).ext E21).other W24 (Or.inl (ne_i (by omega)))).other W26 (Or.inl (ne_i (by omega)))).other W29 (Or.inl (ne_i (by omega)))).other W31 (Or.inl (ne_i (by omega)))).other W35 (Or.inl (ne_i (by omega)))).other W37 (Or.inl (ne_i (by omega)))).other W38 (Or.inl (ne_i (by omega)))).other W41 (Or.inl (ne_i (by omega)))).other W43 (Or.inl (ne_i (by omega)))).other W44 (Or.inl (ne_i (by omega)))).keep Kfi nin0).other W48 (Or.inr (sn_51 hw))).other W50 (Or.inr (sn_52 hw))).ext E51).other W53 (Or.inr (sn_53 hw)))
  have fx66 := ((((((((((((((((((((((((F4.ext E5).other W8 (Or.inr (sn_2 hw).symm)).ext E9).other W12 (Or.inr (sn_4 hw).symm)).ext E14).other W17 (Or.inr (sn_7 hw).symm)).ext E18).other W20 (Or.inr (sn_11 hw).symm)).ext E21).other W24 (Or.inl (ne_i (by omega)))).other W26 (Or.inl (ne_i (by omega)))).other W29 (Or.inl (ne_i (by omega)))).other W31 (Or.inl (ne_i (by omega)))).other W35 (Or.inl (ne_i (by omega)))).other W37 (Or.inl (ne_i (by omega)))).other W38 (Or.inl (ne_i (by omega)))).other W41 (Or.inl (ne_i (by omega)))).other W43 (Or.inl (ne_i (by omega)))).other W44 (Or.inl (ne_i (by omega)))).keep Kfi nin0).other W48 (Or.inr (sn_16 hw).symm)).other W50 (Or.inr (sn_22 hw).symm)).ext E51).other W53 (Or.inr (sn_29 hw).symm))
  have fx67 := ((((((((((((((((((((((((((((F_b_packed.ext E1).other W2 (Or.inr (sn_54 hw))).ext E3).other W4 (Or.inr (sn_55 hw))).ext E5).other W8 (Or.inr (sn_56 hw))).ext E9).other W12 (Or.inr (sn_57 hw))).ext E14).other W17 (Or.inr (sn_58 hw))).ext E18).other W20 (Or.inr (sn_59 hw))).ext E21).other W24 (Or.inl (ne_i (by omega)))).other W26 (Or.inl (ne_i (by omega)))).other W29 (Or.inl (ne_i (by omega)))).other W31 (Or.inl (ne_i (by omega)))).other W35 (Or.inl (ne_i (by omega)))).other W37 (Or.inl (ne_i (by omega)))).other W38 (Or.inl (ne_i (by omega)))).other W41 (Or.inl (ne_i (by omega)))).other W43 (Or.inl (ne_i (by omega)))).other W44 (Or.inl (ne_i (by omega)))).keep Kfi nin0).other W48 (Or.inr (sn_60 hw))).other W50 (Or.inr (sn_61 hw))).ext E51).other W53 (Or.inr (sn_62 hw)))
  have fx68 := (((((((((((((((((((((((((((A1.other W2 (ne_i (by omega))).ext E3).other W4 (ne_i (by omega))).ext E5).other W8 (ne_i (by omega))).ext E9).other W12 (ne_i (by omega))).ext E14).other W17 (ne_i (by omega))).ext E18).other W20 (ne_i (by omega))).ext E21).other W24 (ne_i (by omega))).other W26 (ne_i (by omega))).other W29 (ne_i (by omega))).other W31 (ne_i (by omega))).other W35 (ne_i (by omega))).other W37 (ne_i (by omega))).other W38 (ne_i (by omega))).other W41 (ne_i (by omega))).other W43 (ne_i (by omega))).other W44 (ne_i (by omega))).keep Kfi nin0).other W48 (ne_i (by omega))).other W50 (ne_i (by omega))).ext E51).other W53 (ne_i (by omega)))
  have fx69 := (((((((((((((((((((((((((A3.other W4 (ne_i (by omega))).ext E5).other W8 (ne_i (by omega))).ext E9).other W12 (ne_i (by omega))).ext E14).other W17 (ne_i (by omega))).ext E18).other W20 (ne_i (by omega))).ext E21).other W24 (ne_i (by omega))).other W26 (ne_i (by omega))).other W29 (ne_i (by omega))).other W31 (ne_i (by omega))).other W35 (ne_i (by omega))).other W37 (ne_i (by omega))).other W38 (ne_i (by omega))).other W41 (ne_i (by omega))).other W43 (ne_i (by omega))).other W44 (ne_i (by omega))).keep Kfi nin0).other W48 (ne_i (by omega))).other W50 (ne_i (by omega))).ext E51).other W53 (ne_i (by omega)))
  have fx70 := (((((((((((((((((((((((A5.other W8 (ne_i (by omega))).ext E9).other W12 (ne_i (by omega))).ext E14).other W17 (ne_i (by omega))).ext E18).other W20 (ne_i (by omega))).ext E21).other W24 (ne_i (by omega))).other W26 (ne_i (by omega))).other W29 (ne_i (by omega))).other W31 (ne_i (by omega))).other W35 (ne_i (by omega))).other W37 (ne_i (by omega))).other W38 (ne_i (by omega))).other W41 (ne_i (by omega))).other W43 (ne_i (by omega))).other W44 (ne_i (by omega))).keep Kfi nin0).other W48 (ne_i (by omega))).other W50 (ne_i (by omega))).ext E51).other W53 (ne_i (by omega)))
  have fx71 := (((((((((((((((((((((((X5.wr W8).ext E9).wr W12).ext E14).wr W17).ext E18).wr W20).ext E21).wr W24).wr W26).wr W29).wr W31).wr W35).wr W37).wr W38).wr W41).wr W43).wr W44).keep Kfi).wr W48).wr W50).ext E51).wr W53)
  have fx72 := (((((((((((((((((((((A9.other W12 (ne_i (by omega))).ext E14).other W17 (ne_i (by omega))).ext E18).other W20 (ne_i (by omega))).ext E21).other W24 (ne_i (by omega))).other W26 (ne_i (by omega))).other W29 (ne_i (by omega))).other W31 (ne_i (by omega))).other W35 (ne_i (by omega))).other W37 (ne_i (by omega))).other W38 (ne_i (by omega))).other W41 (ne_i (by omega))).other W43 (ne_i (by omega))).other W44 (ne_i (by omega))).keep Kfi nin0).other W48 (ne_i (by omega))).other W50 (ne_i (by omega))).ext E51).other W53 (ne_i (by omega)))
  have fx73 := (((((((((((((((((((((X9.wr W12).ext E14).wr W17).ext E18).wr W20).ext E21).wr W24).wr W26).wr W29).wr W31).wr W35).wr W37).wr W38).wr W41).wr W43).wr W44).keep Kfi).wr W48).wr W50).ext E51).wr W53)
  have fx74 := (((((((A41.other W43 (ne_i (by omega))).other W44 (ne_i (by omega))).keep Kfi nin0).other W48 (ne_i (by omega))).other W50 (ne_i (by omega))).ext E51).other W53 (ne_i (by omega)))
  have fx75 := ((((((A43.other W44 (ne_i (by omega))).keep Kfi nin0).other W48 (ne_i (by omega))).other W50 (ne_i (by omega))).ext E51).other W53 (ne_i (by omega)))
  have fx76 := (((((A44.keep Kfi nin0).other W48 (ne_i (by omega))).other W50 (ne_i (by omega))).ext E51).other W53 (ne_i (by omega)))
  have fx77 := ((((Afi.other W48 (ne_i (by omega))).other W50 (ne_i (by omega))).ext E51).other W53 (ne_i (by omega)))
  have J : ∀ (hh : Heap) (y9 : Int32) (KM0 KM1 : Int64) (fa0 : Exa Z hh b "com/example/invariant/invariant/check/ConfigurationStore") (fa1 : Fld Z hh b "com/example/invariant/invariant/check/ConfigurationStore" "low" "[I" (.ref b5)) (fa2 : Fld Z hh b "com/example/invariant/invariant/check/ConfigurationStore" "high" "[I" (.ref b9)) (fa3 : Fld Z hh b "com/example/invariant/invariant/check/ConfigurationStore" "firstInt" "[I" (.ref fi)) (fa4 : Fld Z hh b "com/example/invariant/invariant/check/ConfigurationStore" "words" "I" (.int (2 : Int32))) (fa5 : Fld Z hh b "com/example/invariant/invariant/check/ConfigurationStore" "shift" "[I" (.ref b14)) (fa6 : Fld Z hh b "com/example/invariant/invariant/check/ConfigurationStore" "mask" "[J" (.ref b18)) (fa7 : Fld Z hh b "com/example/invariant/invariant/check/ConfigurationStore" "keyMask" "[J" (.ref b51)) (fa8 : Fld Z hh b "com/example/invariant/invariant/check/ConfigurationStore" "pageShift" "I" (.int (0 : Int32))) (fa9 : Fld Z hh b "com/example/invariant/invariant/check/ConfigurationStore" "pages" "[[J" (.ref b1)) (fa10 : Fld Z hh b "com/example/invariant/invariant/check/ConfigurationStore" "size" "I" (.int (0 : Int32))) (fa11 : Fld Z hh b "com/example/invariant/invariant/check/ConfigurationStore" "table" "[J" (.ref b3)) (fa12 : Fld Z hh b "com/example/invariant/invariant/check/ConfigurationStore" "packed" "[J" .null) (fa13 : Ar Z hh b1 (.array .long) k1 [.null]) (fa14 : Ar Z hh b3 .long k3 (List.replicate 128 (.long (0 : Int64)))) (fa15 : Ar Z hh b5 .int kal [(.int l0), (.int l1), (.int l2), (.int l3)]) (fa16 : Ar Z hh b9 .int kah [(.int u0), (.int u1), (.int u2), (.int u3)]) (fa17 : Ar Z hh b14 .int k14 [(.int (0 : Int32)), (.int s1), (.int s2), (.int (0 : Int32))]) (fa18 : Ar Z hh b18 .long k18 [(.long m0), (.long m1), (.long m2), (.long m3)]) (fa19 : Ar Z hh fi .int kfi [(.int (0 : Int32)), (.int (3 : Int32)), (.int (4 : Int32))]) (fa20 : Ar Z hh b51 .long k51 [(.long KM0), (.long KM1)]) (K0 : Keep h hh [b]), Go p l e ({ frames := 2, cells := 10, slots := 158, locals := 55 } : Room) s m #[(.ref b), (.ref al), (.ref ah), (.int kd)] below meth cd Z n0 (fun v h' => v = none ∧ ∃ (pgs tb lo hi sh mk fi km pk : Nat) (kpgs ktb klo khi ksh kmk kfi kkm kpk : ClassId) (KM0 KM1 : Int64), Sto Z h' b pgs tb lo hi sh mk fi km pk kpgs ktb klo khi ksh kmk kfi kkm kpk (2 : Int32) (19 : Int32) (0 : Int32) [.null] (List.replicate 128 (.long (0 : Int64))) [(.int l0), (.int l1), (.int l2), (.int l3)] [(.int u0), (.int u1), (.int u2), (.int u3)] [(.int (0 : Int32)), (.int s1), (.int s2), (.int (0 : Int32))] [(.long m0), (.long m1), (.long m2), (.long m3)] [(.int (0 : Int32)), (.int (3 : Int32)), (.int (4 : Int32))] [(.long KM0), (.long KM1)] [(.long (0 : Int64)), (.long (0 : Int64))] ∧ Ord n0 b pgs tb lo hi sh mk fi km pk ∧ Keep h h' [b]) 10 158 hh 9 156 (mkF m 278 #[(.val (.ref b)), (.val (.ref al)), (.val (.ref ah)), (.val (.int kd)), (.val (.int (4 : Int32))), (.val (.ref b21)), (.val (.int (2 : Int32))), (.val (.int ((0 : Int32) + w3))), (.val (.int (2 : Int32))), (.val (.int y9))] []) := by
    intro hh y9 KM0 KM1 fa0 fa1 fa2 fa3 fa4 fa5 fa6 fa7 fa8 fa9 fa10 fa11 fa12 fa13 fa14 fa15 fa16 fa17 fa18 fa19 fa20 K0
    refine go_old fun Oh => ?_
    refine go_aloadN C (pc' := 279) d5_278 rfl rfl rfl ?_
    refine go_bipush C (pc' := 281) d5_279 (z := (31 : Int32)) (by decide) rfl ?_
    refine go_ldcInt C (pc' := 283) (wd_68 hw) d5_281 rfl ?_
    refine go_aloadN C (pc' := 284) d5_283 rfl rfl rfl ?_
    refine gF C (pc' := 287) (wd_64 hw) fa4 d5_284 rfl ?_
    refine go_idiv C (pc' := 288) d5_287 (by decide) rfl ?_
    refine go_st (st' := [(.int (524288 : Int32)), (.int (31 : Int32)), (.ref b)]) (by rw [show ((1048576 : Int32) / (2 : Int32)) = (524288 : Int32) from by decide]) ?_
    refine go_iconst C (pc' := 289) d5_288 (z := (1 : Int32)) (by decide) rfl ?_
    refine go_callS C (pc' := 292) (y' := (⟨"java/lang/Math", "max", "(II)I"⟩ : MethodName)) (wd_69 hw) (wd_5 hw) (max_met l Z a0 hw _ _ Oh (524288 : Int32) (1 : Int32) (524288 : Int32) (by decide)) (wd_6 hw) (wd_2 hw) (by decide) (by decide) (W := 2) (Nat.le_of_ble_eq_true rfl) (by decide) (by decide) (by decide) rfl (argsL := [(.int (524288 : Int32)), (.int (1 : Int32))]) (rest := [(.int (31 : Int32)), (.ref b)]) pd_1 rfl rfl rfl d5_289 rfl ?_
    rintro _ _ ⟨rfl, rfl⟩
    refine go_st (st' := [(.int (524288 : Int32)), (.int (31 : Int32)), (.ref b)]) rfl ?_
    refine go_callS C (pc' := 295) (y' := (⟨"java/lang/Integer", "numberOfLeadingZeros", "(I)I"⟩ : MethodName)) (wd_70 hw) (wd_49 hw) (nlz_met l Z a0 hw _ _ Oh (524288 : Int32)) (wd_51 hw) (wd_50 hw) (by decide) (by decide) (W := 2) (Nat.le_of_ble_eq_true rfl) (by decide) (by decide) (by decide) rfl (argsL := [(.int (524288 : Int32))]) (rest := [(.int (31 : Int32)), (.ref b)]) pd_0 rfl rfl rfl d5_292 rfl ?_
    rintro _ _ ⟨rfl, rfl⟩
    refine go_st (st' := [(.int (nlI (524288 : Int32))), (.int (31 : Int32)), (.ref b)]) rfl ?_
    refine go_isub C (pc' := 296) d5_295 rfl ?_
    refine go_st (st' := [(.int (19 : Int32)), (.ref b)]) (by rw [show ((31 : Int32) - (nlI (524288 : Int32))) = (19 : Int32) from by decide +kernel]) ?_
    refine go_putF C (pc' := 299) (host := "") (Or.inl (wd_71 hw)) Via.refl fa8 fa0 (Or.inr ⟨(wd_72 hw), rfl, rfl⟩) (wd_12 hw) (ty := .int) (by decide) rfl rfl d5_296 rfl nb ?_
    intro h78 W78 F78
    refine go_old fun O78 => ?_
    refine go_aloadN C (pc' := 300) d5_299 rfl rfl rfl ?_
    refine go_aloadN C (pc' := 301) d5_300 rfl rfl rfl ?_
    refine gF C (pc' := 304) (wd_64 hw) (fa4.other W78 (Or.inr (sn_43 hw).symm)) d5_301 rfl ?_
    refine go_newPA C (pc' := 306) (len := 2) (ty := .long) rfl (wd_24 hw) d5_304 rfl (by decide) (by decide) (by decide) (by decide) (by decide) ?_
    intro h79 b79 k79 g79 n79 E79 A79
    have sz_b79 := Nat.le_trans (Nat.le_trans (Nat.le_trans (Nat.le_refl _) K0.1) (Nat.le_of_eq W78.size.symm)) (Nat.le_of_eq g79.symm)
    have lt_b79 : @LT.lt Nat _ b51 b79 := by rw [g79]; exact (fa20.other W78 (ne_i (by omega))).lt
    refine go_old fun O79 => ?_
    refine go_putF C (pc' := 309) (host := "") (Or.inl (wd_73 hw)) Via.refl ((fa12.other W78 (Or.inr (sn_63 hw))).ext E79) ((fa0.wr W78).ext E79) (Or.inr ⟨(wd_74 hw), rfl, rfl⟩) (wd_12 hw) (ty := (.array .long)) (by decide) rfl rfl d5_306 rfl nb ?_
    intro h80 W80 F80
    refine go_old fun O80 => ?_
    have fx81 := (((fa1.other W78 (Or.inr (sn_38 hw).symm)).ext E79).other W80 (Or.inr (sn_56 hw).symm))
    have fx82 := (((fa2.other W78 (Or.inr (sn_39 hw).symm)).ext E79).other W80 (Or.inr (sn_57 hw).symm))
    have fx83 := (((fa3.other W78 (Or.inr (sn_42 hw).symm)).ext E79).other W80 (Or.inr (sn_60 hw).symm))
    have fx84 := (((fa4.other W78 (Or.inr (sn_43 hw).symm)).ext E79).other W80 (Or.inr (sn_61 hw).symm))
    have fx85 := (((fa5.other W78 (Or.inr (sn_40 hw).symm)).ext E79).other W80 (Or.inr (sn_58 hw).symm))
    have fx86 := (((fa6.other W78 (Or.inr (sn_41 hw).symm)).ext E79).other W80 (Or.inr (sn_59 hw).symm))
    have fx87 := (((fa7.other W78 (Or.inr (sn_44 hw).symm)).ext E79).other W80 (Or.inr (sn_62 hw).symm))
    have fx88 := (((fa9.other W78 (Or.inr (sn_36 hw).symm)).ext E79).other W80 (Or.inr (sn_54 hw).symm))
    have fx89 := (((fa10.other W78 (Or.inr (sn_64 hw))).ext E79).other W80 (Or.inr (sn_65 hw)))
    have fx90 := (((fa11.other W78 (Or.inr (sn_37 hw).symm)).ext E79).other W80 (Or.inr (sn_55 hw).symm))
    have fx91 := (((fa13.other W78 (ne_i (by omega))).ext E79).other W80 (ne_i (by omega)))
    have fx92 := (((fa14.other W78 (ne_i (by omega))).ext E79).other W80 (ne_i (by omega)))
    have fx93 := (((fa15.other W78 (ne_i (by omega))).ext E79).other W80 (ne_i (by omega)))
    have fx94 := (((fa16.other W78 (ne_i (by omega))).ext E79).other W80 (ne_i (by omega)))
    have fx95 := (((fa17.other W78 (ne_i (by omega))).ext E79).other W80 (ne_i (by omega)))
    have fx96 := (((fa18.other W78 (ne_i (by omega))).ext E79).other W80 (ne_i (by omega)))
    have fx97 := (((fa19.other W78 (ne_i (by omega))).ext E79).other W80 (ne_i (by omega)))
    have fx98 := (((fa20.other W78 (ne_i (by omega))).ext E79).other W80 (ne_i (by omega)))
    exact go_ret0 C d5_309 (by decide) (by decide) ⟨rfl, b1, b3, b5, b9, b14, b18, fi, b51, b79, _, _, _, _, _, _, _, _, _, _, _, ⟨(((fa0.wr W78).ext E79).wr W80), fx81, fx82, fx83, fx84, fx85, fx86, fx87, ((F78.ext E79).other W80 (Or.inr (sn_63 hw).symm)), fx88, fx89, fx90, F80, fx91, fx92, fx93, fx94, fx95, fx96, fx97, fx98, (A79.other W80 (ne_i (by omega))), V1⟩, ⟨by omega, by omega, by omega, by omega, by omega, by omega, by omega, by omega, by omega, by omega⟩, (((((Keep.refl _ [b]).trans K0 (allS (Or.inl (by simp)) all0)).wr W78 (Or.inl (by simp))).ext E79).wr W80 (Or.inl (by simp)))⟩
  rcases hk with rfl | rfl | rfl | rfl | rfl
  · refine go_iconst C (pc' := 201) d5_200 (z := (0 : Int32)) (by decide) rfl ?_
    refine go_istore C (pc' := 203) d5_201 (Ls' := #[(.val (.ref b)), (.val (.ref al)), (.val (.ref ah)), (.val (.int (0 : Int32))), (.val (.int (4 : Int32))), (.val (.ref b21)), (.val (.int (2 : Int32))), (.val (.int ((0 : Int32) + w3))), (.val (.int (0 : Int32))), (.val (.int w3))]) rfl rfl ?_
    refine go_iload C (pc' := 205) d5_203 rfl rfl ?_
    refine go_aloadN C (pc' := 206) d5_205 rfl rfl rfl ?_
    refine gF C (pc' := 209) (wd_64 hw) ((F50.ext E51).other W53 (Or.inr (sn_35 hw).symm)) d5_206 rfl ?_
    refine go_icmpNo C (pc' := 212) d5_209 (by decide) rfl ?_
    refine go_aloadN C (pc' := 213) d5_212 rfl rfl rfl ?_
    refine gF C (pc' := 216) (wd_62 hw) fx60 d5_213 rfl ?_
    refine go_iload C (pc' := 218) d5_216 rfl rfl ?_
    refine go_iaget C (pc' := 219) fx77 (by decide) (i := 0) (by decide) rfl d5_218 rfl ?_
    refine go_istore C (pc' := 221) d5_219 (Ls' := #[(.val (.ref b)), (.val (.ref al)), (.val (.ref ah)), (.val (.int (0 : Int32))), (.val (.int (4 : Int32))), (.val (.ref b21)), (.val (.int (2 : Int32))), (.val (.int ((0 : Int32) + w3))), (.val (.int (0 : Int32))), (.val (.int (0 : Int32)))]) rfl rfl ?_
    refine go_iload C (pc' := 223) d5_221 rfl rfl ?_
    refine go_aloadN C (pc' := 224) d5_223 rfl rfl rfl ?_
    refine gF C (pc' := 227) (wd_62 hw) fx60 d5_224 rfl ?_
    refine go_iload C (pc' := 229) d5_227 rfl rfl ?_
    refine go_iconst C (pc' := 230) d5_229 (z := (1 : Int32)) (by decide) rfl ?_
    refine go_iadd C (pc' := 231) d5_230 rfl ?_
    refine go_st (st' := [(.int (1 : Int32)), (.ref fi), (.int (0 : Int32))]) (by rw [show ((0 : Int32) + (1 : Int32)) = (1 : Int32) from by decide]) ?_
    refine go_iaget C (pc' := 232) fx77 (by decide) (i := 1) (by decide) rfl d5_231 rfl ?_
    refine go_icmpNo C (pc' := 235) d5_232 (by decide) rfl ?_
    refine go_iload C (pc' := 237) d5_235 rfl rfl ?_
    refine go_iloadN C (pc' := 238) d5_237 rfl rfl ?_
    refine go_icmpYes C (pc' := 272) d5_238 (by decide) (by decide) (by decide) ?_
    refine gI C (pc' := 275) d5_272 rfl (z := (1 : Int32)) (by decide) (Ls' := #[(.val (.ref b)), (.val (.ref al)), (.val (.ref ah)), (.val (.int (0 : Int32))), (.val (.int (4 : Int32))), (.val (.ref b21)), (.val (.int (2 : Int32))), (.val (.int ((0 : Int32) + w3))), (.val (.int (1 : Int32))), (.val (.int (0 : Int32)))]) rfl rfl ?_
    refine go_goto C (pc' := 203) d5_275 (by decide) (by decide) ?_
    refine go_iload C (pc' := 205) d5_203 rfl rfl ?_
    refine go_aloadN C (pc' := 206) d5_205 rfl rfl rfl ?_
    refine gF C (pc' := 209) (wd_64 hw) ((F50.ext E51).other W53 (Or.inr (sn_35 hw).symm)) d5_206 rfl ?_
    refine go_icmpNo C (pc' := 212) d5_209 (by decide) rfl ?_
    refine go_aloadN C (pc' := 213) d5_212 rfl rfl rfl ?_
    refine gF C (pc' := 216) (wd_62 hw) fx60 d5_213 rfl ?_
    refine go_iload C (pc' := 218) d5_216 rfl rfl ?_
    refine go_iaget C (pc' := 219) fx77 (by decide) (i := 1) (by decide) rfl d5_218 rfl ?_
    refine go_istore C (pc' := 221) d5_219 (Ls' := #[(.val (.ref b)), (.val (.ref al)), (.val (.ref ah)), (.val (.int (0 : Int32))), (.val (.int (4 : Int32))), (.val (.ref b21)), (.val (.int (2 : Int32))), (.val (.int ((0 : Int32) + w3))), (.val (.int (1 : Int32))), (.val (.int (3 : Int32)))]) rfl rfl ?_
    refine go_iload C (pc' := 223) d5_221 rfl rfl ?_
    refine go_aloadN C (pc' := 224) d5_223 rfl rfl rfl ?_
    refine gF C (pc' := 227) (wd_62 hw) fx60 d5_224 rfl ?_
    refine go_iload C (pc' := 229) d5_227 rfl rfl ?_
    refine go_iconst C (pc' := 230) d5_229 (z := (1 : Int32)) (by decide) rfl ?_
    refine go_iadd C (pc' := 231) d5_230 rfl ?_
    refine go_st (st' := [(.int (2 : Int32)), (.ref fi), (.int (3 : Int32))]) (by rw [show ((1 : Int32) + (1 : Int32)) = (2 : Int32) from by decide]) ?_
    refine go_iaget C (pc' := 232) fx77 (by decide) (i := 2) (by decide) rfl d5_231 rfl ?_
    refine go_icmpNo C (pc' := 235) d5_232 (by decide) rfl ?_
    refine go_iload C (pc' := 237) d5_235 rfl rfl ?_
    refine go_iloadN C (pc' := 238) d5_237 rfl rfl ?_
    refine go_icmpYes C (pc' := 272) d5_238 (by decide) (by decide) (by decide) ?_
    refine gI C (pc' := 275) d5_272 rfl (z := (2 : Int32)) (by decide) (Ls' := #[(.val (.ref b)), (.val (.ref al)), (.val (.ref ah)), (.val (.int (0 : Int32))), (.val (.int (4 : Int32))), (.val (.ref b21)), (.val (.int (2 : Int32))), (.val (.int ((0 : Int32) + w3))), (.val (.int (2 : Int32))), (.val (.int (3 : Int32)))]) rfl rfl ?_
    refine go_goto C (pc' := 203) d5_275 (by decide) (by decide) ?_
    refine go_iload C (pc' := 205) d5_203 rfl rfl ?_
    refine go_aloadN C (pc' := 206) d5_205 rfl rfl rfl ?_
    refine gF C (pc' := 209) (wd_64 hw) ((F50.ext E51).other W53 (Or.inr (sn_35 hw).symm)) d5_206 rfl ?_
    refine go_icmpYes C (pc' := 278) d5_209 (by decide) (by decide) (by decide) ?_
    exact J _ _ _ _ ((((fx47.wr W48).wr W50).ext E51).wr W53) fx58 fx59 fx60 ((F50.ext E51).other W53 (Or.inr (sn_35 hw).symm)) fx61 fx62 F53 fx63 fx64 fx65 fx66 fx67 fx68 fx69 fx70 fx72 fx74 fx75 fx77 (A51.other W53 (ne_i (by omega))) (((((((((((((((((((((((((((((Keep.refl _ [b]).ext E1).wr W2 (Or.inl (by simp))).ext E3).wr W4 (Or.inl (by simp))).ext E5).wr W8 (Or.inl (by simp))).ext E9).wr W12 (Or.inl (by simp))).ext E14).wr W17 (Or.inl (by simp))).ext E18).wr W20 (Or.inl (by simp))).ext E21).wr W24 (Or.inr sz_b14)).wr W26 (Or.inr sz_b18)).wr W29 (Or.inr sz_b14)).wr W31 (Or.inr sz_b18)).wr W35 (Or.inr sz_b14)).wr W37 (Or.inr sz_b18)).wr W38 (Or.inr sz_b21)).wr W41 (Or.inr sz_b14)).wr W43 (Or.inr sz_b18)).wr W44 (Or.inr sz_b21)).trans Kfi all0).wr W48 (Or.inl (by simp))).wr W50 (Or.inl (by simp))).ext E51).wr W53 (Or.inl (by simp)))
  · refine go_iconst C (pc' := 201) d5_200 (z := (0 : Int32)) (by decide) rfl ?_
    refine go_istore C (pc' := 203) d5_201 (Ls' := #[(.val (.ref b)), (.val (.ref al)), (.val (.ref ah)), (.val (.int (1 : Int32))), (.val (.int (4 : Int32))), (.val (.ref b21)), (.val (.int (2 : Int32))), (.val (.int ((0 : Int32) + w3))), (.val (.int (0 : Int32))), (.val (.int w3))]) rfl rfl ?_
    refine go_iload C (pc' := 205) d5_203 rfl rfl ?_
    refine go_aloadN C (pc' := 206) d5_205 rfl rfl rfl ?_
    refine gF C (pc' := 209) (wd_64 hw) ((F50.ext E51).other W53 (Or.inr (sn_35 hw).symm)) d5_206 rfl ?_
    refine go_icmpNo C (pc' := 212) d5_209 (by decide) rfl ?_
    refine go_aloadN C (pc' := 213) d5_212 rfl rfl rfl ?_
    refine gF C (pc' := 216) (wd_62 hw) fx60 d5_213 rfl ?_
    refine go_iload C (pc' := 218) d5_216 rfl rfl ?_
    refine go_iaget C (pc' := 219) fx77 (by decide) (i := 0) (by decide) rfl d5_218 rfl ?_
    refine go_istore C (pc' := 221) d5_219 (Ls' := #[(.val (.ref b)), (.val (.ref al)), (.val (.ref ah)), (.val (.int (1 : Int32))), (.val (.int (4 : Int32))), (.val (.ref b21)), (.val (.int (2 : Int32))), (.val (.int ((0 : Int32) + w3))), (.val (.int (0 : Int32))), (.val (.int (0 : Int32)))]) rfl rfl ?_
    refine go_iload C (pc' := 223) d5_221 rfl rfl ?_
    refine go_aloadN C (pc' := 224) d5_223 rfl rfl rfl ?_
    refine gF C (pc' := 227) (wd_62 hw) fx60 d5_224 rfl ?_
    refine go_iload C (pc' := 229) d5_227 rfl rfl ?_
    refine go_iconst C (pc' := 230) d5_229 (z := (1 : Int32)) (by decide) rfl ?_
    refine go_iadd C (pc' := 231) d5_230 rfl ?_
    refine go_st (st' := [(.int (1 : Int32)), (.ref fi), (.int (0 : Int32))]) (by rw [show ((0 : Int32) + (1 : Int32)) = (1 : Int32) from by decide]) ?_
    refine go_iaget C (pc' := 232) fx77 (by decide) (i := 1) (by decide) rfl d5_231 rfl ?_
    refine go_icmpNo C (pc' := 235) d5_232 (by decide) rfl ?_
    refine go_iload C (pc' := 237) d5_235 rfl rfl ?_
    refine go_iloadN C (pc' := 238) d5_237 rfl rfl ?_
    refine go_icmpNo C (pc' := 241) d5_238 (by decide) rfl ?_
    refine go_aloadN C (pc' := 242) d5_241 rfl rfl rfl ?_
    refine gF C (pc' := 245) (wd_66 hw) F53 d5_242 rfl ?_
    refine go_iload C (pc' := 247) d5_245 rfl rfl ?_
    refine go_dup2 C (pc' := 248) d5_247 rfl rfl rfl ?_
    refine go_laget C (pc' := 249) (A51.other W53 (ne_i (by omega))) (by decide) (i := 0) (by decide) rfl d5_248 rfl ?_
    refine go_aloadN C (pc' := 250) d5_249 rfl rfl rfl ?_
    refine gF C (pc' := 253) (wd_42 hw) fx62 d5_250 rfl ?_
    refine go_iload C (pc' := 255) d5_253 rfl rfl ?_
    refine go_laget C (pc' := 256) fx75 (by decide) (i := 0) (by decide) rfl d5_255 rfl ?_
    refine go_aloadN C (pc' := 257) d5_256 rfl rfl rfl ?_
    refine gF C (pc' := 260) (wd_40 hw) fx61 d5_257 rfl ?_
    refine go_iload C (pc' := 262) d5_260 rfl rfl ?_
    refine go_iaget C (pc' := 263) fx74 (by decide) (i := 0) (by decide) rfl d5_262 rfl ?_
    refine go_lshl C (pc' := 264) d5_263 rfl ?_
    refine go_lor C (pc' := 265) d5_264 rfl ?_
    refine go_laset C (pc' := 266) (A51.other W53 (ne_i (by omega))) (by decide) (i := 0) (by decide) (by simp) (vs' := [(.long ((0 : Int64) ||| (m0 <<< ((0 : Int32) &&& 0x3f).toInt64))), (.long (0 : Int64))]) rfl d5_265 rfl n51 ?_
    intro h99 W99 A99
    refine go_old fun O99 => ?_
    refine gI C (pc' := 269) d5_266 rfl (z := (1 : Int32)) (by decide) (Ls' := #[(.val (.ref b)), (.val (.ref al)), (.val (.ref ah)), (.val (.int (1 : Int32))), (.val (.int (4 : Int32))), (.val (.ref b21)), (.val (.int (2 : Int32))), (.val (.int ((0 : Int32) + w3))), (.val (.int (0 : Int32))), (.val (.int (1 : Int32)))]) rfl rfl ?_
    refine go_goto C (pc' := 221) d5_269 (by decide) (by decide) ?_
    refine go_iload C (pc' := 223) d5_221 rfl rfl ?_
    refine go_aloadN C (pc' := 224) d5_223 rfl rfl rfl ?_
    refine gF C (pc' := 227) (wd_62 hw) (fx60.other W99 (Or.inl (ne_i (by omega)))) d5_224 rfl ?_
    refine go_iload C (pc' := 229) d5_227 rfl rfl ?_
    refine go_iconst C (pc' := 230) d5_229 (z := (1 : Int32)) (by decide) rfl ?_
    refine go_iadd C (pc' := 231) d5_230 rfl ?_
    refine go_st (st' := [(.int (1 : Int32)), (.ref fi), (.int (1 : Int32))]) (by rw [show ((0 : Int32) + (1 : Int32)) = (1 : Int32) from by decide]) ?_
    refine go_iaget C (pc' := 232) (fx77.other W99 (ne_i (by omega))) (by decide) (i := 1) (by decide) rfl d5_231 rfl ?_
    refine go_icmpNo C (pc' := 235) d5_232 (by decide) rfl ?_
    refine go_iload C (pc' := 237) d5_235 rfl rfl ?_
    refine go_iloadN C (pc' := 238) d5_237 rfl rfl ?_
    refine go_icmpYes C (pc' := 272) d5_238 (by decide) (by decide) (by decide) ?_
    refine gI C (pc' := 275) d5_272 rfl (z := (1 : Int32)) (by decide) (Ls' := #[(.val (.ref b)), (.val (.ref al)), (.val (.ref ah)), (.val (.int (1 : Int32))), (.val (.int (4 : Int32))), (.val (.ref b21)), (.val (.int (2 : Int32))), (.val (.int ((0 : Int32) + w3))), (.val (.int (1 : Int32))), (.val (.int (1 : Int32)))]) rfl rfl ?_
    refine go_goto C (pc' := 203) d5_275 (by decide) (by decide) ?_
    refine go_iload C (pc' := 205) d5_203 rfl rfl ?_
    refine go_aloadN C (pc' := 206) d5_205 rfl rfl rfl ?_
    have fx100 := (((F50.ext E51).other W53 (Or.inr (sn_35 hw).symm)).other W99 (Or.inl (ne_i (by omega))))
    refine gF C (pc' := 209) (wd_64 hw) fx100 d5_206 rfl ?_
    refine go_icmpNo C (pc' := 212) d5_209 (by decide) rfl ?_
    refine go_aloadN C (pc' := 213) d5_212 rfl rfl rfl ?_
    refine gF C (pc' := 216) (wd_62 hw) (fx60.other W99 (Or.inl (ne_i (by omega)))) d5_213 rfl ?_
    refine go_iload C (pc' := 218) d5_216 rfl rfl ?_
    refine go_iaget C (pc' := 219) (fx77.other W99 (ne_i (by omega))) (by decide) (i := 1) (by decide) rfl d5_218 rfl ?_
    refine go_istore C (pc' := 221) d5_219 (Ls' := #[(.val (.ref b)), (.val (.ref al)), (.val (.ref ah)), (.val (.int (1 : Int32))), (.val (.int (4 : Int32))), (.val (.ref b21)), (.val (.int (2 : Int32))), (.val (.int ((0 : Int32) + w3))), (.val (.int (1 : Int32))), (.val (.int (3 : Int32)))]) rfl rfl ?_
    refine go_iload C (pc' := 223) d5_221 rfl rfl ?_
    refine go_aloadN C (pc' := 224) d5_223 rfl rfl rfl ?_
    refine gF C (pc' := 227) (wd_62 hw) (fx60.other W99 (Or.inl (ne_i (by omega)))) d5_224 rfl ?_
    refine go_iload C (pc' := 229) d5_227 rfl rfl ?_
    refine go_iconst C (pc' := 230) d5_229 (z := (1 : Int32)) (by decide) rfl ?_
    refine go_iadd C (pc' := 231) d5_230 rfl ?_
    refine go_st (st' := [(.int (2 : Int32)), (.ref fi), (.int (3 : Int32))]) (by rw [show ((1 : Int32) + (1 : Int32)) = (2 : Int32) from by decide]) ?_
    refine go_iaget C (pc' := 232) (fx77.other W99 (ne_i (by omega))) (by decide) (i := 2) (by decide) rfl d5_231 rfl ?_
    refine go_icmpNo C (pc' := 235) d5_232 (by decide) rfl ?_
    refine go_iload C (pc' := 237) d5_235 rfl rfl ?_
    refine go_iloadN C (pc' := 238) d5_237 rfl rfl ?_
    refine go_icmpYes C (pc' := 272) d5_238 (by decide) (by decide) (by decide) ?_
    refine gI C (pc' := 275) d5_272 rfl (z := (2 : Int32)) (by decide) (Ls' := #[(.val (.ref b)), (.val (.ref al)), (.val (.ref ah)), (.val (.int (1 : Int32))), (.val (.int (4 : Int32))), (.val (.ref b21)), (.val (.int (2 : Int32))), (.val (.int ((0 : Int32) + w3))), (.val (.int (2 : Int32))), (.val (.int (3 : Int32)))]) rfl rfl ?_
    refine go_goto C (pc' := 203) d5_275 (by decide) (by decide) ?_
    refine go_iload C (pc' := 205) d5_203 rfl rfl ?_
    refine go_aloadN C (pc' := 206) d5_205 rfl rfl rfl ?_
    refine gF C (pc' := 209) (wd_64 hw) fx100 d5_206 rfl ?_
    refine go_icmpYes C (pc' := 278) d5_209 (by decide) (by decide) (by decide) ?_
    exact J _ _ _ _ (((((fx47.wr W48).wr W50).ext E51).wr W53).wr W99) (fx58.other W99 (Or.inl (ne_i (by omega)))) (fx59.other W99 (Or.inl (ne_i (by omega)))) (fx60.other W99 (Or.inl (ne_i (by omega)))) fx100 (fx61.other W99 (Or.inl (ne_i (by omega)))) (fx62.other W99 (Or.inl (ne_i (by omega)))) (F53.other W99 (Or.inl (ne_i (by omega)))) (fx63.other W99 (Or.inl (ne_i (by omega)))) (fx64.other W99 (Or.inl (ne_i (by omega)))) (fx65.other W99 (Or.inl (ne_i (by omega)))) (fx66.other W99 (Or.inl (ne_i (by omega)))) (fx67.other W99 (Or.inl (ne_i (by omega)))) (fx68.other W99 (ne_i (by omega))) (fx69.other W99 (ne_i (by omega))) (fx70.other W99 (ne_i (by omega))) (fx72.other W99 (ne_i (by omega))) (fx74.other W99 (ne_i (by omega))) (fx75.other W99 (ne_i (by omega))) (fx77.other W99 (ne_i (by omega))) A99 ((((((((((((((((((((((((((((((Keep.refl _ [b]).ext E1).wr W2 (Or.inl (by simp))).ext E3).wr W4 (Or.inl (by simp))).ext E5).wr W8 (Or.inl (by simp))).ext E9).wr W12 (Or.inl (by simp))).ext E14).wr W17 (Or.inl (by simp))).ext E18).wr W20 (Or.inl (by simp))).ext E21).wr W24 (Or.inr sz_b14)).wr W26 (Or.inr sz_b18)).wr W29 (Or.inr sz_b14)).wr W31 (Or.inr sz_b18)).wr W35 (Or.inr sz_b14)).wr W37 (Or.inr sz_b18)).wr W38 (Or.inr sz_b21)).wr W41 (Or.inr sz_b14)).wr W43 (Or.inr sz_b18)).wr W44 (Or.inr sz_b21)).trans Kfi all0).wr W48 (Or.inl (by simp))).wr W50 (Or.inl (by simp))).ext E51).wr W53 (Or.inl (by simp))).wr W99 (Or.inr sz_b51))
  · refine go_iconst C (pc' := 201) d5_200 (z := (0 : Int32)) (by decide) rfl ?_
    refine go_istore C (pc' := 203) d5_201 (Ls' := #[(.val (.ref b)), (.val (.ref al)), (.val (.ref ah)), (.val (.int (2 : Int32))), (.val (.int (4 : Int32))), (.val (.ref b21)), (.val (.int (2 : Int32))), (.val (.int ((0 : Int32) + w3))), (.val (.int (0 : Int32))), (.val (.int w3))]) rfl rfl ?_
    refine go_iload C (pc' := 205) d5_203 rfl rfl ?_
    refine go_aloadN C (pc' := 206) d5_205 rfl rfl rfl ?_
    refine gF C (pc' := 209) (wd_64 hw) ((F50.ext E51).other W53 (Or.inr (sn_35 hw).symm)) d5_206 rfl ?_
    refine go_icmpNo C (pc' := 212) d5_209 (by decide) rfl ?_
    refine go_aloadN C (pc' := 213) d5_212 rfl rfl rfl ?_
    refine gF C (pc' := 216) (wd_62 hw) fx60 d5_213 rfl ?_
    refine go_iload C (pc' := 218) d5_216 rfl rfl ?_
    refine go_iaget C (pc' := 219) fx77 (by decide) (i := 0) (by decide) rfl d5_218 rfl ?_
    refine go_istore C (pc' := 221) d5_219 (Ls' := #[(.val (.ref b)), (.val (.ref al)), (.val (.ref ah)), (.val (.int (2 : Int32))), (.val (.int (4 : Int32))), (.val (.ref b21)), (.val (.int (2 : Int32))), (.val (.int ((0 : Int32) + w3))), (.val (.int (0 : Int32))), (.val (.int (0 : Int32)))]) rfl rfl ?_
    refine go_iload C (pc' := 223) d5_221 rfl rfl ?_
    refine go_aloadN C (pc' := 224) d5_223 rfl rfl rfl ?_
    refine gF C (pc' := 227) (wd_62 hw) fx60 d5_224 rfl ?_
    refine go_iload C (pc' := 229) d5_227 rfl rfl ?_
    refine go_iconst C (pc' := 230) d5_229 (z := (1 : Int32)) (by decide) rfl ?_
    refine go_iadd C (pc' := 231) d5_230 rfl ?_
    refine go_st (st' := [(.int (1 : Int32)), (.ref fi), (.int (0 : Int32))]) (by rw [show ((0 : Int32) + (1 : Int32)) = (1 : Int32) from by decide]) ?_
    refine go_iaget C (pc' := 232) fx77 (by decide) (i := 1) (by decide) rfl d5_231 rfl ?_
    refine go_icmpNo C (pc' := 235) d5_232 (by decide) rfl ?_
    refine go_iload C (pc' := 237) d5_235 rfl rfl ?_
    refine go_iloadN C (pc' := 238) d5_237 rfl rfl ?_
    refine go_icmpNo C (pc' := 241) d5_238 (by decide) rfl ?_
    refine go_aloadN C (pc' := 242) d5_241 rfl rfl rfl ?_
    refine gF C (pc' := 245) (wd_66 hw) F53 d5_242 rfl ?_
    refine go_iload C (pc' := 247) d5_245 rfl rfl ?_
    refine go_dup2 C (pc' := 248) d5_247 rfl rfl rfl ?_
    refine go_laget C (pc' := 249) (A51.other W53 (ne_i (by omega))) (by decide) (i := 0) (by decide) rfl d5_248 rfl ?_
    refine go_aloadN C (pc' := 250) d5_249 rfl rfl rfl ?_
    refine gF C (pc' := 253) (wd_42 hw) fx62 d5_250 rfl ?_
    refine go_iload C (pc' := 255) d5_253 rfl rfl ?_
    refine go_laget C (pc' := 256) fx75 (by decide) (i := 0) (by decide) rfl d5_255 rfl ?_
    refine go_aloadN C (pc' := 257) d5_256 rfl rfl rfl ?_
    refine gF C (pc' := 260) (wd_40 hw) fx61 d5_257 rfl ?_
    refine go_iload C (pc' := 262) d5_260 rfl rfl ?_
    refine go_iaget C (pc' := 263) fx74 (by decide) (i := 0) (by decide) rfl d5_262 rfl ?_
    refine go_lshl C (pc' := 264) d5_263 rfl ?_
    refine go_lor C (pc' := 265) d5_264 rfl ?_
    refine go_laset C (pc' := 266) (A51.other W53 (ne_i (by omega))) (by decide) (i := 0) (by decide) (by simp) (vs' := [(.long ((0 : Int64) ||| (m0 <<< ((0 : Int32) &&& 0x3f).toInt64))), (.long (0 : Int64))]) rfl d5_265 rfl n51 ?_
    intro h101 W101 A101
    refine go_old fun O101 => ?_
    refine gI C (pc' := 269) d5_266 rfl (z := (1 : Int32)) (by decide) (Ls' := #[(.val (.ref b)), (.val (.ref al)), (.val (.ref ah)), (.val (.int (2 : Int32))), (.val (.int (4 : Int32))), (.val (.ref b21)), (.val (.int (2 : Int32))), (.val (.int ((0 : Int32) + w3))), (.val (.int (0 : Int32))), (.val (.int (1 : Int32)))]) rfl rfl ?_
    refine go_goto C (pc' := 221) d5_269 (by decide) (by decide) ?_
    refine go_iload C (pc' := 223) d5_221 rfl rfl ?_
    refine go_aloadN C (pc' := 224) d5_223 rfl rfl rfl ?_
    refine gF C (pc' := 227) (wd_62 hw) (fx60.other W101 (Or.inl (ne_i (by omega)))) d5_224 rfl ?_
    refine go_iload C (pc' := 229) d5_227 rfl rfl ?_
    refine go_iconst C (pc' := 230) d5_229 (z := (1 : Int32)) (by decide) rfl ?_
    refine go_iadd C (pc' := 231) d5_230 rfl ?_
    refine go_st (st' := [(.int (1 : Int32)), (.ref fi), (.int (1 : Int32))]) (by rw [show ((0 : Int32) + (1 : Int32)) = (1 : Int32) from by decide]) ?_
    refine go_iaget C (pc' := 232) (fx77.other W101 (ne_i (by omega))) (by decide) (i := 1) (by decide) rfl d5_231 rfl ?_
    refine go_icmpNo C (pc' := 235) d5_232 (by decide) rfl ?_
    refine go_iload C (pc' := 237) d5_235 rfl rfl ?_
    refine go_iloadN C (pc' := 238) d5_237 rfl rfl ?_
    refine go_icmpNo C (pc' := 241) d5_238 (by decide) rfl ?_
    refine go_aloadN C (pc' := 242) d5_241 rfl rfl rfl ?_
    refine gF C (pc' := 245) (wd_66 hw) (F53.other W101 (Or.inl (ne_i (by omega)))) d5_242 rfl ?_
    refine go_iload C (pc' := 247) d5_245 rfl rfl ?_
    refine go_dup2 C (pc' := 248) d5_247 rfl rfl rfl ?_
    refine go_laget C (pc' := 249) A101 (by decide) (i := 0) (by decide) rfl d5_248 rfl ?_
    refine go_aloadN C (pc' := 250) d5_249 rfl rfl rfl ?_
    refine gF C (pc' := 253) (wd_42 hw) (fx62.other W101 (Or.inl (ne_i (by omega)))) d5_250 rfl ?_
    refine go_iload C (pc' := 255) d5_253 rfl rfl ?_
    refine go_laget C (pc' := 256) (fx75.other W101 (ne_i (by omega))) (by decide) (i := 1) (by decide) rfl d5_255 rfl ?_
    refine go_aloadN C (pc' := 257) d5_256 rfl rfl rfl ?_
    refine gF C (pc' := 260) (wd_40 hw) (fx61.other W101 (Or.inl (ne_i (by omega)))) d5_257 rfl ?_
    refine go_iload C (pc' := 262) d5_260 rfl rfl ?_
    refine go_iaget C (pc' := 263) (fx74.other W101 (ne_i (by omega))) (by decide) (i := 1) (by decide) rfl d5_262 rfl ?_
    refine go_lshl C (pc' := 264) d5_263 rfl ?_
    refine go_lor C (pc' := 265) d5_264 rfl ?_
    refine go_laset C (pc' := 266) A101 (by decide) (i := 0) (by decide) (by simp) (vs' := [(.long (((0 : Int64) ||| (m0 <<< ((0 : Int32) &&& 0x3f).toInt64)) ||| (m1 <<< (s1 &&& 0x3f).toInt64))), (.long (0 : Int64))]) rfl d5_265 rfl n51 ?_
    intro h102 W102 A102
    refine go_old fun O102 => ?_
    refine gI C (pc' := 269) d5_266 rfl (z := (2 : Int32)) (by decide) (Ls' := #[(.val (.ref b)), (.val (.ref al)), (.val (.ref ah)), (.val (.int (2 : Int32))), (.val (.int (4 : Int32))), (.val (.ref b21)), (.val (.int (2 : Int32))), (.val (.int ((0 : Int32) + w3))), (.val (.int (0 : Int32))), (.val (.int (2 : Int32)))]) rfl rfl ?_
    refine go_goto C (pc' := 221) d5_269 (by decide) (by decide) ?_
    refine go_iload C (pc' := 223) d5_221 rfl rfl ?_
    refine go_aloadN C (pc' := 224) d5_223 rfl rfl rfl ?_
    have fx103 := ((fx60.other W101 (Or.inl (ne_i (by omega)))).other W102 (Or.inl (ne_i (by omega))))
    refine gF C (pc' := 227) (wd_62 hw) fx103 d5_224 rfl ?_
    refine go_iload C (pc' := 229) d5_227 rfl rfl ?_
    refine go_iconst C (pc' := 230) d5_229 (z := (1 : Int32)) (by decide) rfl ?_
    refine go_iadd C (pc' := 231) d5_230 rfl ?_
    refine go_st (st' := [(.int (1 : Int32)), (.ref fi), (.int (2 : Int32))]) (by rw [show ((0 : Int32) + (1 : Int32)) = (1 : Int32) from by decide]) ?_
    refine go_iaget C (pc' := 232) ((fx77.other W101 (ne_i (by omega))).other W102 (ne_i (by omega))) (by decide) (i := 1) (by decide) rfl d5_231 rfl ?_
    refine go_icmpNo C (pc' := 235) d5_232 (by decide) rfl ?_
    refine go_iload C (pc' := 237) d5_235 rfl rfl ?_
    refine go_iloadN C (pc' := 238) d5_237 rfl rfl ?_
    refine go_icmpYes C (pc' := 272) d5_238 (by decide) (by decide) (by decide) ?_
    refine gI C (pc' := 275) d5_272 rfl (z := (1 : Int32)) (by decide) (Ls' := #[(.val (.ref b)), (.val (.ref al)), (.val (.ref ah)), (.val (.int (2 : Int32))), (.val (.int (4 : Int32))), (.val (.ref b21)), (.val (.int (2 : Int32))), (.val (.int ((0 : Int32) + w3))), (.val (.int (1 : Int32))), (.val (.int (2 : Int32)))]) rfl rfl ?_
    refine go_goto C (pc' := 203) d5_275 (by decide) (by decide) ?_
    refine go_iload C (pc' := 205) d5_203 rfl rfl ?_
    refine go_aloadN C (pc' := 206) d5_205 rfl rfl rfl ?_
    have fx104 := ((((F50.ext E51).other W53 (Or.inr (sn_35 hw).symm)).other W101 (Or.inl (ne_i (by omega)))).other W102 (Or.inl (ne_i (by omega))))
    refine gF C (pc' := 209) (wd_64 hw) fx104 d5_206 rfl ?_
    refine go_icmpNo C (pc' := 212) d5_209 (by decide) rfl ?_
    refine go_aloadN C (pc' := 213) d5_212 rfl rfl rfl ?_
    refine gF C (pc' := 216) (wd_62 hw) fx103 d5_213 rfl ?_
    refine go_iload C (pc' := 218) d5_216 rfl rfl ?_
    refine go_iaget C (pc' := 219) ((fx77.other W101 (ne_i (by omega))).other W102 (ne_i (by omega))) (by decide) (i := 1) (by decide) rfl d5_218 rfl ?_
    refine go_istore C (pc' := 221) d5_219 (Ls' := #[(.val (.ref b)), (.val (.ref al)), (.val (.ref ah)), (.val (.int (2 : Int32))), (.val (.int (4 : Int32))), (.val (.ref b21)), (.val (.int (2 : Int32))), (.val (.int ((0 : Int32) + w3))), (.val (.int (1 : Int32))), (.val (.int (3 : Int32)))]) rfl rfl ?_
    refine go_iload C (pc' := 223) d5_221 rfl rfl ?_
    refine go_aloadN C (pc' := 224) d5_223 rfl rfl rfl ?_
    refine gF C (pc' := 227) (wd_62 hw) fx103 d5_224 rfl ?_
    refine go_iload C (pc' := 229) d5_227 rfl rfl ?_
    refine go_iconst C (pc' := 230) d5_229 (z := (1 : Int32)) (by decide) rfl ?_
    refine go_iadd C (pc' := 231) d5_230 rfl ?_
    refine go_st (st' := [(.int (2 : Int32)), (.ref fi), (.int (3 : Int32))]) (by rw [show ((1 : Int32) + (1 : Int32)) = (2 : Int32) from by decide]) ?_
    refine go_iaget C (pc' := 232) ((fx77.other W101 (ne_i (by omega))).other W102 (ne_i (by omega))) (by decide) (i := 2) (by decide) rfl d5_231 rfl ?_
    refine go_icmpNo C (pc' := 235) d5_232 (by decide) rfl ?_
    refine go_iload C (pc' := 237) d5_235 rfl rfl ?_
    refine go_iloadN C (pc' := 238) d5_237 rfl rfl ?_
    refine go_icmpYes C (pc' := 272) d5_238 (by decide) (by decide) (by decide) ?_
    refine gI C (pc' := 275) d5_272 rfl (z := (2 : Int32)) (by decide) (Ls' := #[(.val (.ref b)), (.val (.ref al)), (.val (.ref ah)), (.val (.int (2 : Int32))), (.val (.int (4 : Int32))), (.val (.ref b21)), (.val (.int (2 : Int32))), (.val (.int ((0 : Int32) + w3))), (.val (.int (2 : Int32))), (.val (.int (3 : Int32)))]) rfl rfl ?_
    refine go_goto C (pc' := 203) d5_275 (by decide) (by decide) ?_
    refine go_iload C (pc' := 205) d5_203 rfl rfl ?_
    refine go_aloadN C (pc' := 206) d5_205 rfl rfl rfl ?_
    refine gF C (pc' := 209) (wd_64 hw) fx104 d5_206 rfl ?_
    refine go_icmpYes C (pc' := 278) d5_209 (by decide) (by decide) (by decide) ?_
    have fx105 := ((fx58.other W101 (Or.inl (ne_i (by omega)))).other W102 (Or.inl (ne_i (by omega))))
    have fx106 := ((fx59.other W101 (Or.inl (ne_i (by omega)))).other W102 (Or.inl (ne_i (by omega))))
    have fx107 := ((fx61.other W101 (Or.inl (ne_i (by omega)))).other W102 (Or.inl (ne_i (by omega))))
    have fx108 := ((fx62.other W101 (Or.inl (ne_i (by omega)))).other W102 (Or.inl (ne_i (by omega))))
    have fx109 := ((F53.other W101 (Or.inl (ne_i (by omega)))).other W102 (Or.inl (ne_i (by omega))))
    have fx110 := ((fx63.other W101 (Or.inl (ne_i (by omega)))).other W102 (Or.inl (ne_i (by omega))))
    have fx111 := ((fx64.other W101 (Or.inl (ne_i (by omega)))).other W102 (Or.inl (ne_i (by omega))))
    have fx112 := ((fx65.other W101 (Or.inl (ne_i (by omega)))).other W102 (Or.inl (ne_i (by omega))))
    have fx113 := ((fx66.other W101 (Or.inl (ne_i (by omega)))).other W102 (Or.inl (ne_i (by omega))))
    have fx114 := ((fx67.other W101 (Or.inl (ne_i (by omega)))).other W102 (Or.inl (ne_i (by omega))))
    exact J _ _ _ _ ((((((fx47.wr W48).wr W50).ext E51).wr W53).wr W101).wr W102) fx105 fx106 fx103 fx104 fx107 fx108 fx109 fx110 fx111 fx112 fx113 fx114 ((fx68.other W101 (ne_i (by omega))).other W102 (ne_i (by omega))) ((fx69.other W101 (ne_i (by omega))).other W102 (ne_i (by omega))) ((fx70.other W101 (ne_i (by omega))).other W102 (ne_i (by omega))) ((fx72.other W101 (ne_i (by omega))).other W102 (ne_i (by omega))) ((fx74.other W101 (ne_i (by omega))).other W102 (ne_i (by omega))) ((fx75.other W101 (ne_i (by omega))).other W102 (ne_i (by omega))) ((fx77.other W101 (ne_i (by omega))).other W102 (ne_i (by omega))) A102 (((((((((((((((((((((((((((((((Keep.refl _ [b]).ext E1).wr W2 (Or.inl (by simp))).ext E3).wr W4 (Or.inl (by simp))).ext E5).wr W8 (Or.inl (by simp))).ext E9).wr W12 (Or.inl (by simp))).ext E14).wr W17 (Or.inl (by simp))).ext E18).wr W20 (Or.inl (by simp))).ext E21).wr W24 (Or.inr sz_b14)).wr W26 (Or.inr sz_b18)).wr W29 (Or.inr sz_b14)).wr W31 (Or.inr sz_b18)).wr W35 (Or.inr sz_b14)).wr W37 (Or.inr sz_b18)).wr W38 (Or.inr sz_b21)).wr W41 (Or.inr sz_b14)).wr W43 (Or.inr sz_b18)).wr W44 (Or.inr sz_b21)).trans Kfi all0).wr W48 (Or.inl (by simp))).wr W50 (Or.inl (by simp))).ext E51).wr W53 (Or.inl (by simp))).wr W101 (Or.inr sz_b51)).wr W102 (Or.inr sz_b51))
  · refine go_iconst C (pc' := 201) d5_200 (z := (0 : Int32)) (by decide) rfl ?_
    refine go_istore C (pc' := 203) d5_201 (Ls' := #[(.val (.ref b)), (.val (.ref al)), (.val (.ref ah)), (.val (.int (3 : Int32))), (.val (.int (4 : Int32))), (.val (.ref b21)), (.val (.int (2 : Int32))), (.val (.int ((0 : Int32) + w3))), (.val (.int (0 : Int32))), (.val (.int w3))]) rfl rfl ?_
    refine go_iload C (pc' := 205) d5_203 rfl rfl ?_
    refine go_aloadN C (pc' := 206) d5_205 rfl rfl rfl ?_
    refine gF C (pc' := 209) (wd_64 hw) ((F50.ext E51).other W53 (Or.inr (sn_35 hw).symm)) d5_206 rfl ?_
    refine go_icmpNo C (pc' := 212) d5_209 (by decide) rfl ?_
    refine go_aloadN C (pc' := 213) d5_212 rfl rfl rfl ?_
    refine gF C (pc' := 216) (wd_62 hw) fx60 d5_213 rfl ?_
    refine go_iload C (pc' := 218) d5_216 rfl rfl ?_
    refine go_iaget C (pc' := 219) fx77 (by decide) (i := 0) (by decide) rfl d5_218 rfl ?_
    refine go_istore C (pc' := 221) d5_219 (Ls' := #[(.val (.ref b)), (.val (.ref al)), (.val (.ref ah)), (.val (.int (3 : Int32))), (.val (.int (4 : Int32))), (.val (.ref b21)), (.val (.int (2 : Int32))), (.val (.int ((0 : Int32) + w3))), (.val (.int (0 : Int32))), (.val (.int (0 : Int32)))]) rfl rfl ?_
    refine go_iload C (pc' := 223) d5_221 rfl rfl ?_
    refine go_aloadN C (pc' := 224) d5_223 rfl rfl rfl ?_
    refine gF C (pc' := 227) (wd_62 hw) fx60 d5_224 rfl ?_
    refine go_iload C (pc' := 229) d5_227 rfl rfl ?_
    refine go_iconst C (pc' := 230) d5_229 (z := (1 : Int32)) (by decide) rfl ?_
    refine go_iadd C (pc' := 231) d5_230 rfl ?_
    refine go_st (st' := [(.int (1 : Int32)), (.ref fi), (.int (0 : Int32))]) (by rw [show ((0 : Int32) + (1 : Int32)) = (1 : Int32) from by decide]) ?_
    refine go_iaget C (pc' := 232) fx77 (by decide) (i := 1) (by decide) rfl d5_231 rfl ?_
    refine go_icmpNo C (pc' := 235) d5_232 (by decide) rfl ?_
    refine go_iload C (pc' := 237) d5_235 rfl rfl ?_
    refine go_iloadN C (pc' := 238) d5_237 rfl rfl ?_
    refine go_icmpNo C (pc' := 241) d5_238 (by decide) rfl ?_
    refine go_aloadN C (pc' := 242) d5_241 rfl rfl rfl ?_
    refine gF C (pc' := 245) (wd_66 hw) F53 d5_242 rfl ?_
    refine go_iload C (pc' := 247) d5_245 rfl rfl ?_
    refine go_dup2 C (pc' := 248) d5_247 rfl rfl rfl ?_
    refine go_laget C (pc' := 249) (A51.other W53 (ne_i (by omega))) (by decide) (i := 0) (by decide) rfl d5_248 rfl ?_
    refine go_aloadN C (pc' := 250) d5_249 rfl rfl rfl ?_
    refine gF C (pc' := 253) (wd_42 hw) fx62 d5_250 rfl ?_
    refine go_iload C (pc' := 255) d5_253 rfl rfl ?_
    refine go_laget C (pc' := 256) fx75 (by decide) (i := 0) (by decide) rfl d5_255 rfl ?_
    refine go_aloadN C (pc' := 257) d5_256 rfl rfl rfl ?_
    refine gF C (pc' := 260) (wd_40 hw) fx61 d5_257 rfl ?_
    refine go_iload C (pc' := 262) d5_260 rfl rfl ?_
    refine go_iaget C (pc' := 263) fx74 (by decide) (i := 0) (by decide) rfl d5_262 rfl ?_
    refine go_lshl C (pc' := 264) d5_263 rfl ?_
    refine go_lor C (pc' := 265) d5_264 rfl ?_
    refine go_laset C (pc' := 266) (A51.other W53 (ne_i (by omega))) (by decide) (i := 0) (by decide) (by simp) (vs' := [(.long ((0 : Int64) ||| (m0 <<< ((0 : Int32) &&& 0x3f).toInt64))), (.long (0 : Int64))]) rfl d5_265 rfl n51 ?_
    intro h115 W115 A115
    refine go_old fun O115 => ?_
    refine gI C (pc' := 269) d5_266 rfl (z := (1 : Int32)) (by decide) (Ls' := #[(.val (.ref b)), (.val (.ref al)), (.val (.ref ah)), (.val (.int (3 : Int32))), (.val (.int (4 : Int32))), (.val (.ref b21)), (.val (.int (2 : Int32))), (.val (.int ((0 : Int32) + w3))), (.val (.int (0 : Int32))), (.val (.int (1 : Int32)))]) rfl rfl ?_
    refine go_goto C (pc' := 221) d5_269 (by decide) (by decide) ?_
    refine go_iload C (pc' := 223) d5_221 rfl rfl ?_
    refine go_aloadN C (pc' := 224) d5_223 rfl rfl rfl ?_
    refine gF C (pc' := 227) (wd_62 hw) (fx60.other W115 (Or.inl (ne_i (by omega)))) d5_224 rfl ?_
    refine go_iload C (pc' := 229) d5_227 rfl rfl ?_
    refine go_iconst C (pc' := 230) d5_229 (z := (1 : Int32)) (by decide) rfl ?_
    refine go_iadd C (pc' := 231) d5_230 rfl ?_
    refine go_st (st' := [(.int (1 : Int32)), (.ref fi), (.int (1 : Int32))]) (by rw [show ((0 : Int32) + (1 : Int32)) = (1 : Int32) from by decide]) ?_
    refine go_iaget C (pc' := 232) (fx77.other W115 (ne_i (by omega))) (by decide) (i := 1) (by decide) rfl d5_231 rfl ?_
    refine go_icmpNo C (pc' := 235) d5_232 (by decide) rfl ?_
    refine go_iload C (pc' := 237) d5_235 rfl rfl ?_
    refine go_iloadN C (pc' := 238) d5_237 rfl rfl ?_
    refine go_icmpNo C (pc' := 241) d5_238 (by decide) rfl ?_
    refine go_aloadN C (pc' := 242) d5_241 rfl rfl rfl ?_
    refine gF C (pc' := 245) (wd_66 hw) (F53.other W115 (Or.inl (ne_i (by omega)))) d5_242 rfl ?_
    refine go_iload C (pc' := 247) d5_245 rfl rfl ?_
    refine go_dup2 C (pc' := 248) d5_247 rfl rfl rfl ?_
    refine go_laget C (pc' := 249) A115 (by decide) (i := 0) (by decide) rfl d5_248 rfl ?_
    refine go_aloadN C (pc' := 250) d5_249 rfl rfl rfl ?_
    refine gF C (pc' := 253) (wd_42 hw) (fx62.other W115 (Or.inl (ne_i (by omega)))) d5_250 rfl ?_
    refine go_iload C (pc' := 255) d5_253 rfl rfl ?_
    refine go_laget C (pc' := 256) (fx75.other W115 (ne_i (by omega))) (by decide) (i := 1) (by decide) rfl d5_255 rfl ?_
    refine go_aloadN C (pc' := 257) d5_256 rfl rfl rfl ?_
    refine gF C (pc' := 260) (wd_40 hw) (fx61.other W115 (Or.inl (ne_i (by omega)))) d5_257 rfl ?_
    refine go_iload C (pc' := 262) d5_260 rfl rfl ?_
    refine go_iaget C (pc' := 263) (fx74.other W115 (ne_i (by omega))) (by decide) (i := 1) (by decide) rfl d5_262 rfl ?_
    refine go_lshl C (pc' := 264) d5_263 rfl ?_
    refine go_lor C (pc' := 265) d5_264 rfl ?_
    refine go_laset C (pc' := 266) A115 (by decide) (i := 0) (by decide) (by simp) (vs' := [(.long (((0 : Int64) ||| (m0 <<< ((0 : Int32) &&& 0x3f).toInt64)) ||| (m1 <<< (s1 &&& 0x3f).toInt64))), (.long (0 : Int64))]) rfl d5_265 rfl n51 ?_
    intro h116 W116 A116
    refine go_old fun O116 => ?_
    refine gI C (pc' := 269) d5_266 rfl (z := (2 : Int32)) (by decide) (Ls' := #[(.val (.ref b)), (.val (.ref al)), (.val (.ref ah)), (.val (.int (3 : Int32))), (.val (.int (4 : Int32))), (.val (.ref b21)), (.val (.int (2 : Int32))), (.val (.int ((0 : Int32) + w3))), (.val (.int (0 : Int32))), (.val (.int (2 : Int32)))]) rfl rfl ?_
    refine go_goto C (pc' := 221) d5_269 (by decide) (by decide) ?_
    refine go_iload C (pc' := 223) d5_221 rfl rfl ?_
    refine go_aloadN C (pc' := 224) d5_223 rfl rfl rfl ?_
    have fx117 := ((fx60.other W115 (Or.inl (ne_i (by omega)))).other W116 (Or.inl (ne_i (by omega))))
    refine gF C (pc' := 227) (wd_62 hw) fx117 d5_224 rfl ?_
    refine go_iload C (pc' := 229) d5_227 rfl rfl ?_
    refine go_iconst C (pc' := 230) d5_229 (z := (1 : Int32)) (by decide) rfl ?_
    refine go_iadd C (pc' := 231) d5_230 rfl ?_
    refine go_st (st' := [(.int (1 : Int32)), (.ref fi), (.int (2 : Int32))]) (by rw [show ((0 : Int32) + (1 : Int32)) = (1 : Int32) from by decide]) ?_
    refine go_iaget C (pc' := 232) ((fx77.other W115 (ne_i (by omega))).other W116 (ne_i (by omega))) (by decide) (i := 1) (by decide) rfl d5_231 rfl ?_
    refine go_icmpNo C (pc' := 235) d5_232 (by decide) rfl ?_
    refine go_iload C (pc' := 237) d5_235 rfl rfl ?_
    refine go_iloadN C (pc' := 238) d5_237 rfl rfl ?_
    refine go_icmpNo C (pc' := 241) d5_238 (by decide) rfl ?_
    refine go_aloadN C (pc' := 242) d5_241 rfl rfl rfl ?_
    have fx118 := ((F53.other W115 (Or.inl (ne_i (by omega)))).other W116 (Or.inl (ne_i (by omega))))
    refine gF C (pc' := 245) (wd_66 hw) fx118 d5_242 rfl ?_
    refine go_iload C (pc' := 247) d5_245 rfl rfl ?_
    refine go_dup2 C (pc' := 248) d5_247 rfl rfl rfl ?_
    refine go_laget C (pc' := 249) A116 (by decide) (i := 0) (by decide) rfl d5_248 rfl ?_
    refine go_aloadN C (pc' := 250) d5_249 rfl rfl rfl ?_
    have fx119 := ((fx62.other W115 (Or.inl (ne_i (by omega)))).other W116 (Or.inl (ne_i (by omega))))
    refine gF C (pc' := 253) (wd_42 hw) fx119 d5_250 rfl ?_
    refine go_iload C (pc' := 255) d5_253 rfl rfl ?_
    refine go_laget C (pc' := 256) ((fx75.other W115 (ne_i (by omega))).other W116 (ne_i (by omega))) (by decide) (i := 2) (by decide) rfl d5_255 rfl ?_
    refine go_aloadN C (pc' := 257) d5_256 rfl rfl rfl ?_
    have fx120 := ((fx61.other W115 (Or.inl (ne_i (by omega)))).other W116 (Or.inl (ne_i (by omega))))
    refine gF C (pc' := 260) (wd_40 hw) fx120 d5_257 rfl ?_
    refine go_iload C (pc' := 262) d5_260 rfl rfl ?_
    refine go_iaget C (pc' := 263) ((fx74.other W115 (ne_i (by omega))).other W116 (ne_i (by omega))) (by decide) (i := 2) (by decide) rfl d5_262 rfl ?_
    refine go_lshl C (pc' := 264) d5_263 rfl ?_
    refine go_lor C (pc' := 265) d5_264 rfl ?_
    refine go_laset C (pc' := 266) A116 (by decide) (i := 0) (by decide) (by simp) (vs' := [(.long ((((0 : Int64) ||| (m0 <<< ((0 : Int32) &&& 0x3f).toInt64)) ||| (m1 <<< (s1 &&& 0x3f).toInt64)) ||| (m2 <<< (s2 &&& 0x3f).toInt64))), (.long (0 : Int64))]) rfl d5_265 rfl n51 ?_
    intro h121 W121 A121
    refine go_old fun O121 => ?_
    refine gI C (pc' := 269) d5_266 rfl (z := (3 : Int32)) (by decide) (Ls' := #[(.val (.ref b)), (.val (.ref al)), (.val (.ref ah)), (.val (.int (3 : Int32))), (.val (.int (4 : Int32))), (.val (.ref b21)), (.val (.int (2 : Int32))), (.val (.int ((0 : Int32) + w3))), (.val (.int (0 : Int32))), (.val (.int (3 : Int32)))]) rfl rfl ?_
    refine go_goto C (pc' := 221) d5_269 (by decide) (by decide) ?_
    refine go_iload C (pc' := 223) d5_221 rfl rfl ?_
    refine go_aloadN C (pc' := 224) d5_223 rfl rfl rfl ?_
    refine gF C (pc' := 227) (wd_62 hw) (fx117.other W121 (Or.inl (ne_i (by omega)))) d5_224 rfl ?_
    refine go_iload C (pc' := 229) d5_227 rfl rfl ?_
    refine go_iconst C (pc' := 230) d5_229 (z := (1 : Int32)) (by decide) rfl ?_
    refine go_iadd C (pc' := 231) d5_230 rfl ?_
    refine go_st (st' := [(.int (1 : Int32)), (.ref fi), (.int (3 : Int32))]) (by rw [show ((0 : Int32) + (1 : Int32)) = (1 : Int32) from by decide]) ?_
    have fx122 := (((fx77.other W115 (ne_i (by omega))).other W116 (ne_i (by omega))).other W121 (ne_i (by omega)))
    refine go_iaget C (pc' := 232) fx122 (by decide) (i := 1) (by decide) rfl d5_231 rfl ?_
    refine go_icmpYes C (pc' := 272) d5_232 (by decide) (by decide) (by decide) ?_
    refine gI C (pc' := 275) d5_272 rfl (z := (1 : Int32)) (by decide) (Ls' := #[(.val (.ref b)), (.val (.ref al)), (.val (.ref ah)), (.val (.int (3 : Int32))), (.val (.int (4 : Int32))), (.val (.ref b21)), (.val (.int (2 : Int32))), (.val (.int ((0 : Int32) + w3))), (.val (.int (1 : Int32))), (.val (.int (3 : Int32)))]) rfl rfl ?_
    refine go_goto C (pc' := 203) d5_275 (by decide) (by decide) ?_
    refine go_iload C (pc' := 205) d5_203 rfl rfl ?_
    refine go_aloadN C (pc' := 206) d5_205 rfl rfl rfl ?_
    have fx123 := (((((F50.ext E51).other W53 (Or.inr (sn_35 hw).symm)).other W115 (Or.inl (ne_i (by omega)))).other W116 (Or.inl (ne_i (by omega)))).other W121 (Or.inl (ne_i (by omega))))
    refine gF C (pc' := 209) (wd_64 hw) fx123 d5_206 rfl ?_
    refine go_icmpNo C (pc' := 212) d5_209 (by decide) rfl ?_
    refine go_aloadN C (pc' := 213) d5_212 rfl rfl rfl ?_
    refine gF C (pc' := 216) (wd_62 hw) (fx117.other W121 (Or.inl (ne_i (by omega)))) d5_213 rfl ?_
    refine go_iload C (pc' := 218) d5_216 rfl rfl ?_
    refine go_iaget C (pc' := 219) fx122 (by decide) (i := 1) (by decide) rfl d5_218 rfl ?_
    refine go_istore C (pc' := 221) d5_219 (Ls' := #[(.val (.ref b)), (.val (.ref al)), (.val (.ref ah)), (.val (.int (3 : Int32))), (.val (.int (4 : Int32))), (.val (.ref b21)), (.val (.int (2 : Int32))), (.val (.int ((0 : Int32) + w3))), (.val (.int (1 : Int32))), (.val (.int (3 : Int32)))]) rfl rfl ?_
    refine go_iload C (pc' := 223) d5_221 rfl rfl ?_
    refine go_aloadN C (pc' := 224) d5_223 rfl rfl rfl ?_
    refine gF C (pc' := 227) (wd_62 hw) (fx117.other W121 (Or.inl (ne_i (by omega)))) d5_224 rfl ?_
    refine go_iload C (pc' := 229) d5_227 rfl rfl ?_
    refine go_iconst C (pc' := 230) d5_229 (z := (1 : Int32)) (by decide) rfl ?_
    refine go_iadd C (pc' := 231) d5_230 rfl ?_
    refine go_st (st' := [(.int (2 : Int32)), (.ref fi), (.int (3 : Int32))]) (by rw [show ((1 : Int32) + (1 : Int32)) = (2 : Int32) from by decide]) ?_
    refine go_iaget C (pc' := 232) fx122 (by decide) (i := 2) (by decide) rfl d5_231 rfl ?_
    refine go_icmpNo C (pc' := 235) d5_232 (by decide) rfl ?_
    refine go_iload C (pc' := 237) d5_235 rfl rfl ?_
    refine go_iloadN C (pc' := 238) d5_237 rfl rfl ?_
    refine go_icmpYes C (pc' := 272) d5_238 (by decide) (by decide) (by decide) ?_
    refine gI C (pc' := 275) d5_272 rfl (z := (2 : Int32)) (by decide) (Ls' := #[(.val (.ref b)), (.val (.ref al)), (.val (.ref ah)), (.val (.int (3 : Int32))), (.val (.int (4 : Int32))), (.val (.ref b21)), (.val (.int (2 : Int32))), (.val (.int ((0 : Int32) + w3))), (.val (.int (2 : Int32))), (.val (.int (3 : Int32)))]) rfl rfl ?_
    refine go_goto C (pc' := 203) d5_275 (by decide) (by decide) ?_
    refine go_iload C (pc' := 205) d5_203 rfl rfl ?_
    refine go_aloadN C (pc' := 206) d5_205 rfl rfl rfl ?_
    refine gF C (pc' := 209) (wd_64 hw) fx123 d5_206 rfl ?_
    refine go_icmpYes C (pc' := 278) d5_209 (by decide) (by decide) (by decide) ?_
    have fx124 := (((((((fx47.wr W48).wr W50).ext E51).wr W53).wr W115).wr W116).wr W121)
    have fx125 := (((fx58.other W115 (Or.inl (ne_i (by omega)))).other W116 (Or.inl (ne_i (by omega)))).other W121 (Or.inl (ne_i (by omega))))
    have fx126 := (((fx59.other W115 (Or.inl (ne_i (by omega)))).other W116 (Or.inl (ne_i (by omega)))).other W121 (Or.inl (ne_i (by omega))))
    have fx127 := (((fx63.other W115 (Or.inl (ne_i (by omega)))).other W116 (Or.inl (ne_i (by omega)))).other W121 (Or.inl (ne_i (by omega))))
    have fx128 := (((fx64.other W115 (Or.inl (ne_i (by omega)))).other W116 (Or.inl (ne_i (by omega)))).other W121 (Or.inl (ne_i (by omega))))
    have fx129 := (((fx65.other W115 (Or.inl (ne_i (by omega)))).other W116 (Or.inl (ne_i (by omega)))).other W121 (Or.inl (ne_i (by omega))))
    have fx130 := (((fx66.other W115 (Or.inl (ne_i (by omega)))).other W116 (Or.inl (ne_i (by omega)))).other W121 (Or.inl (ne_i (by omega))))
    have fx131 := (((fx67.other W115 (Or.inl (ne_i (by omega)))).other W116 (Or.inl (ne_i (by omega)))).other W121 (Or.inl (ne_i (by omega))))
    have fx132 := (((fx68.other W115 (ne_i (by omega))).other W116 (ne_i (by omega))).other W121 (ne_i (by omega)))
    have fx133 := (((fx69.other W115 (ne_i (by omega))).other W116 (ne_i (by omega))).other W121 (ne_i (by omega)))
    have fx134 := (((fx70.other W115 (ne_i (by omega))).other W116 (ne_i (by omega))).other W121 (ne_i (by omega)))
    have fx135 := (((fx72.other W115 (ne_i (by omega))).other W116 (ne_i (by omega))).other W121 (ne_i (by omega)))
    have fx136 := (((fx74.other W115 (ne_i (by omega))).other W116 (ne_i (by omega))).other W121 (ne_i (by omega)))
    have fx137 := (((fx75.other W115 (ne_i (by omega))).other W116 (ne_i (by omega))).other W121 (ne_i (by omega)))
    exact J _ _ _ _ fx124 fx125 fx126 (fx117.other W121 (Or.inl (ne_i (by omega)))) fx123 (fx120.other W121 (Or.inl (ne_i (by omega)))) (fx119.other W121 (Or.inl (ne_i (by omega)))) (fx118.other W121 (Or.inl (ne_i (by omega)))) fx127 fx128 fx129 fx130 fx131 fx132 fx133 fx134 fx135 fx136 fx137 fx122 A121 ((((((((((((((((((((((((((((((((Keep.refl _ [b]).ext E1).wr W2 (Or.inl (by simp))).ext E3).wr W4 (Or.inl (by simp))).ext E5).wr W8 (Or.inl (by simp))).ext E9).wr W12 (Or.inl (by simp))).ext E14).wr W17 (Or.inl (by simp))).ext E18).wr W20 (Or.inl (by simp))).ext E21).wr W24 (Or.inr sz_b14)).wr W26 (Or.inr sz_b18)).wr W29 (Or.inr sz_b14)).wr W31 (Or.inr sz_b18)).wr W35 (Or.inr sz_b14)).wr W37 (Or.inr sz_b18)).wr W38 (Or.inr sz_b21)).wr W41 (Or.inr sz_b14)).wr W43 (Or.inr sz_b18)).wr W44 (Or.inr sz_b21)).trans Kfi all0).wr W48 (Or.inl (by simp))).wr W50 (Or.inl (by simp))).ext E51).wr W53 (Or.inl (by simp))).wr W115 (Or.inr sz_b51)).wr W116 (Or.inr sz_b51)).wr W121 (Or.inr sz_b51))
  · refine go_iconst C (pc' := 201) d5_200 (z := (0 : Int32)) (by decide) rfl ?_
    refine go_istore C (pc' := 203) d5_201 (Ls' := #[(.val (.ref b)), (.val (.ref al)), (.val (.ref ah)), (.val (.int (4 : Int32))), (.val (.int (4 : Int32))), (.val (.ref b21)), (.val (.int (2 : Int32))), (.val (.int ((0 : Int32) + w3))), (.val (.int (0 : Int32))), (.val (.int w3))]) rfl rfl ?_
    refine go_iload C (pc' := 205) d5_203 rfl rfl ?_
    refine go_aloadN C (pc' := 206) d5_205 rfl rfl rfl ?_
    refine gF C (pc' := 209) (wd_64 hw) ((F50.ext E51).other W53 (Or.inr (sn_35 hw).symm)) d5_206 rfl ?_
    refine go_icmpNo C (pc' := 212) d5_209 (by decide) rfl ?_
    refine go_aloadN C (pc' := 213) d5_212 rfl rfl rfl ?_
    refine gF C (pc' := 216) (wd_62 hw) fx60 d5_213 rfl ?_
    refine go_iload C (pc' := 218) d5_216 rfl rfl ?_
    refine go_iaget C (pc' := 219) fx77 (by decide) (i := 0) (by decide) rfl d5_218 rfl ?_
    refine go_istore C (pc' := 221) d5_219 (Ls' := #[(.val (.ref b)), (.val (.ref al)), (.val (.ref ah)), (.val (.int (4 : Int32))), (.val (.int (4 : Int32))), (.val (.ref b21)), (.val (.int (2 : Int32))), (.val (.int ((0 : Int32) + w3))), (.val (.int (0 : Int32))), (.val (.int (0 : Int32)))]) rfl rfl ?_
    refine go_iload C (pc' := 223) d5_221 rfl rfl ?_
    refine go_aloadN C (pc' := 224) d5_223 rfl rfl rfl ?_
    refine gF C (pc' := 227) (wd_62 hw) fx60 d5_224 rfl ?_
    refine go_iload C (pc' := 229) d5_227 rfl rfl ?_
    refine go_iconst C (pc' := 230) d5_229 (z := (1 : Int32)) (by decide) rfl ?_
    refine go_iadd C (pc' := 231) d5_230 rfl ?_
    refine go_st (st' := [(.int (1 : Int32)), (.ref fi), (.int (0 : Int32))]) (by rw [show ((0 : Int32) + (1 : Int32)) = (1 : Int32) from by decide]) ?_
    refine go_iaget C (pc' := 232) fx77 (by decide) (i := 1) (by decide) rfl d5_231 rfl ?_
    refine go_icmpNo C (pc' := 235) d5_232 (by decide) rfl ?_
    refine go_iload C (pc' := 237) d5_235 rfl rfl ?_
    refine go_iloadN C (pc' := 238) d5_237 rfl rfl ?_
    refine go_icmpNo C (pc' := 241) d5_238 (by decide) rfl ?_
    refine go_aloadN C (pc' := 242) d5_241 rfl rfl rfl ?_
    refine gF C (pc' := 245) (wd_66 hw) F53 d5_242 rfl ?_
    refine go_iload C (pc' := 247) d5_245 rfl rfl ?_
    refine go_dup2 C (pc' := 248) d5_247 rfl rfl rfl ?_
    refine go_laget C (pc' := 249) (A51.other W53 (ne_i (by omega))) (by decide) (i := 0) (by decide) rfl d5_248 rfl ?_
    refine go_aloadN C (pc' := 250) d5_249 rfl rfl rfl ?_
    refine gF C (pc' := 253) (wd_42 hw) fx62 d5_250 rfl ?_
    refine go_iload C (pc' := 255) d5_253 rfl rfl ?_
    refine go_laget C (pc' := 256) fx75 (by decide) (i := 0) (by decide) rfl d5_255 rfl ?_
    refine go_aloadN C (pc' := 257) d5_256 rfl rfl rfl ?_
    refine gF C (pc' := 260) (wd_40 hw) fx61 d5_257 rfl ?_
    refine go_iload C (pc' := 262) d5_260 rfl rfl ?_
    refine go_iaget C (pc' := 263) fx74 (by decide) (i := 0) (by decide) rfl d5_262 rfl ?_
    refine go_lshl C (pc' := 264) d5_263 rfl ?_
    refine go_lor C (pc' := 265) d5_264 rfl ?_
    refine go_laset C (pc' := 266) (A51.other W53 (ne_i (by omega))) (by decide) (i := 0) (by decide) (by simp) (vs' := [(.long ((0 : Int64) ||| (m0 <<< ((0 : Int32) &&& 0x3f).toInt64))), (.long (0 : Int64))]) rfl d5_265 rfl n51 ?_
    intro h138 W138 A138
    refine go_old fun O138 => ?_
    refine gI C (pc' := 269) d5_266 rfl (z := (1 : Int32)) (by decide) (Ls' := #[(.val (.ref b)), (.val (.ref al)), (.val (.ref ah)), (.val (.int (4 : Int32))), (.val (.int (4 : Int32))), (.val (.ref b21)), (.val (.int (2 : Int32))), (.val (.int ((0 : Int32) + w3))), (.val (.int (0 : Int32))), (.val (.int (1 : Int32)))]) rfl rfl ?_
    refine go_goto C (pc' := 221) d5_269 (by decide) (by decide) ?_
    refine go_iload C (pc' := 223) d5_221 rfl rfl ?_
    refine go_aloadN C (pc' := 224) d5_223 rfl rfl rfl ?_
    refine gF C (pc' := 227) (wd_62 hw) (fx60.other W138 (Or.inl (ne_i (by omega)))) d5_224 rfl ?_
    refine go_iload C (pc' := 229) d5_227 rfl rfl ?_
    refine go_iconst C (pc' := 230) d5_229 (z := (1 : Int32)) (by decide) rfl ?_
    refine go_iadd C (pc' := 231) d5_230 rfl ?_
    refine go_st (st' := [(.int (1 : Int32)), (.ref fi), (.int (1 : Int32))]) (by rw [show ((0 : Int32) + (1 : Int32)) = (1 : Int32) from by decide]) ?_
    refine go_iaget C (pc' := 232) (fx77.other W138 (ne_i (by omega))) (by decide) (i := 1) (by decide) rfl d5_231 rfl ?_
    refine go_icmpNo C (pc' := 235) d5_232 (by decide) rfl ?_
    refine go_iload C (pc' := 237) d5_235 rfl rfl ?_
    refine go_iloadN C (pc' := 238) d5_237 rfl rfl ?_
    refine go_icmpNo C (pc' := 241) d5_238 (by decide) rfl ?_
    refine go_aloadN C (pc' := 242) d5_241 rfl rfl rfl ?_
    refine gF C (pc' := 245) (wd_66 hw) (F53.other W138 (Or.inl (ne_i (by omega)))) d5_242 rfl ?_
    refine go_iload C (pc' := 247) d5_245 rfl rfl ?_
    refine go_dup2 C (pc' := 248) d5_247 rfl rfl rfl ?_
    refine go_laget C (pc' := 249) A138 (by decide) (i := 0) (by decide) rfl d5_248 rfl ?_
    refine go_aloadN C (pc' := 250) d5_249 rfl rfl rfl ?_
    refine gF C (pc' := 253) (wd_42 hw) (fx62.other W138 (Or.inl (ne_i (by omega)))) d5_250 rfl ?_
    refine go_iload C (pc' := 255) d5_253 rfl rfl ?_
    refine go_laget C (pc' := 256) (fx75.other W138 (ne_i (by omega))) (by decide) (i := 1) (by decide) rfl d5_255 rfl ?_
    refine go_aloadN C (pc' := 257) d5_256 rfl rfl rfl ?_
    refine gF C (pc' := 260) (wd_40 hw) (fx61.other W138 (Or.inl (ne_i (by omega)))) d5_257 rfl ?_
    refine go_iload C (pc' := 262) d5_260 rfl rfl ?_
    refine go_iaget C (pc' := 263) (fx74.other W138 (ne_i (by omega))) (by decide) (i := 1) (by decide) rfl d5_262 rfl ?_
    refine go_lshl C (pc' := 264) d5_263 rfl ?_
    refine go_lor C (pc' := 265) d5_264 rfl ?_
    refine go_laset C (pc' := 266) A138 (by decide) (i := 0) (by decide) (by simp) (vs' := [(.long (((0 : Int64) ||| (m0 <<< ((0 : Int32) &&& 0x3f).toInt64)) ||| (m1 <<< (s1 &&& 0x3f).toInt64))), (.long (0 : Int64))]) rfl d5_265 rfl n51 ?_
    intro h139 W139 A139
    refine go_old fun O139 => ?_
    refine gI C (pc' := 269) d5_266 rfl (z := (2 : Int32)) (by decide) (Ls' := #[(.val (.ref b)), (.val (.ref al)), (.val (.ref ah)), (.val (.int (4 : Int32))), (.val (.int (4 : Int32))), (.val (.ref b21)), (.val (.int (2 : Int32))), (.val (.int ((0 : Int32) + w3))), (.val (.int (0 : Int32))), (.val (.int (2 : Int32)))]) rfl rfl ?_
    refine go_goto C (pc' := 221) d5_269 (by decide) (by decide) ?_
    refine go_iload C (pc' := 223) d5_221 rfl rfl ?_
    refine go_aloadN C (pc' := 224) d5_223 rfl rfl rfl ?_
    have fx140 := ((fx60.other W138 (Or.inl (ne_i (by omega)))).other W139 (Or.inl (ne_i (by omega))))
    refine gF C (pc' := 227) (wd_62 hw) fx140 d5_224 rfl ?_
    refine go_iload C (pc' := 229) d5_227 rfl rfl ?_
    refine go_iconst C (pc' := 230) d5_229 (z := (1 : Int32)) (by decide) rfl ?_
    refine go_iadd C (pc' := 231) d5_230 rfl ?_
    refine go_st (st' := [(.int (1 : Int32)), (.ref fi), (.int (2 : Int32))]) (by rw [show ((0 : Int32) + (1 : Int32)) = (1 : Int32) from by decide]) ?_
    refine go_iaget C (pc' := 232) ((fx77.other W138 (ne_i (by omega))).other W139 (ne_i (by omega))) (by decide) (i := 1) (by decide) rfl d5_231 rfl ?_
    refine go_icmpNo C (pc' := 235) d5_232 (by decide) rfl ?_
    refine go_iload C (pc' := 237) d5_235 rfl rfl ?_
    refine go_iloadN C (pc' := 238) d5_237 rfl rfl ?_
    refine go_icmpNo C (pc' := 241) d5_238 (by decide) rfl ?_
    refine go_aloadN C (pc' := 242) d5_241 rfl rfl rfl ?_
    have fx141 := ((F53.other W138 (Or.inl (ne_i (by omega)))).other W139 (Or.inl (ne_i (by omega))))
    refine gF C (pc' := 245) (wd_66 hw) fx141 d5_242 rfl ?_
    refine go_iload C (pc' := 247) d5_245 rfl rfl ?_
    refine go_dup2 C (pc' := 248) d5_247 rfl rfl rfl ?_
    refine go_laget C (pc' := 249) A139 (by decide) (i := 0) (by decide) rfl d5_248 rfl ?_
    refine go_aloadN C (pc' := 250) d5_249 rfl rfl rfl ?_
    have fx142 := ((fx62.other W138 (Or.inl (ne_i (by omega)))).other W139 (Or.inl (ne_i (by omega))))
    refine gF C (pc' := 253) (wd_42 hw) fx142 d5_250 rfl ?_
    refine go_iload C (pc' := 255) d5_253 rfl rfl ?_
    refine go_laget C (pc' := 256) ((fx75.other W138 (ne_i (by omega))).other W139 (ne_i (by omega))) (by decide) (i := 2) (by decide) rfl d5_255 rfl ?_
    refine go_aloadN C (pc' := 257) d5_256 rfl rfl rfl ?_
    have fx143 := ((fx61.other W138 (Or.inl (ne_i (by omega)))).other W139 (Or.inl (ne_i (by omega))))
    refine gF C (pc' := 260) (wd_40 hw) fx143 d5_257 rfl ?_
    refine go_iload C (pc' := 262) d5_260 rfl rfl ?_
    refine go_iaget C (pc' := 263) ((fx74.other W138 (ne_i (by omega))).other W139 (ne_i (by omega))) (by decide) (i := 2) (by decide) rfl d5_262 rfl ?_
    refine go_lshl C (pc' := 264) d5_263 rfl ?_
    refine go_lor C (pc' := 265) d5_264 rfl ?_
    refine go_laset C (pc' := 266) A139 (by decide) (i := 0) (by decide) (by simp) (vs' := [(.long ((((0 : Int64) ||| (m0 <<< ((0 : Int32) &&& 0x3f).toInt64)) ||| (m1 <<< (s1 &&& 0x3f).toInt64)) ||| (m2 <<< (s2 &&& 0x3f).toInt64))), (.long (0 : Int64))]) rfl d5_265 rfl n51 ?_
    intro h144 W144 A144
    refine go_old fun O144 => ?_
    refine gI C (pc' := 269) d5_266 rfl (z := (3 : Int32)) (by decide) (Ls' := #[(.val (.ref b)), (.val (.ref al)), (.val (.ref ah)), (.val (.int (4 : Int32))), (.val (.int (4 : Int32))), (.val (.ref b21)), (.val (.int (2 : Int32))), (.val (.int ((0 : Int32) + w3))), (.val (.int (0 : Int32))), (.val (.int (3 : Int32)))]) rfl rfl ?_
    refine go_goto C (pc' := 221) d5_269 (by decide) (by decide) ?_
    refine go_iload C (pc' := 223) d5_221 rfl rfl ?_
    refine go_aloadN C (pc' := 224) d5_223 rfl rfl rfl ?_
    refine gF C (pc' := 227) (wd_62 hw) (fx140.other W144 (Or.inl (ne_i (by omega)))) d5_224 rfl ?_
    refine go_iload C (pc' := 229) d5_227 rfl rfl ?_
    refine go_iconst C (pc' := 230) d5_229 (z := (1 : Int32)) (by decide) rfl ?_
    refine go_iadd C (pc' := 231) d5_230 rfl ?_
    refine go_st (st' := [(.int (1 : Int32)), (.ref fi), (.int (3 : Int32))]) (by rw [show ((0 : Int32) + (1 : Int32)) = (1 : Int32) from by decide]) ?_
    have fx145 := (((fx77.other W138 (ne_i (by omega))).other W139 (ne_i (by omega))).other W144 (ne_i (by omega)))
    refine go_iaget C (pc' := 232) fx145 (by decide) (i := 1) (by decide) rfl d5_231 rfl ?_
    refine go_icmpYes C (pc' := 272) d5_232 (by decide) (by decide) (by decide) ?_
    refine gI C (pc' := 275) d5_272 rfl (z := (1 : Int32)) (by decide) (Ls' := #[(.val (.ref b)), (.val (.ref al)), (.val (.ref ah)), (.val (.int (4 : Int32))), (.val (.int (4 : Int32))), (.val (.ref b21)), (.val (.int (2 : Int32))), (.val (.int ((0 : Int32) + w3))), (.val (.int (1 : Int32))), (.val (.int (3 : Int32)))]) rfl rfl ?_
    refine go_goto C (pc' := 203) d5_275 (by decide) (by decide) ?_
    refine go_iload C (pc' := 205) d5_203 rfl rfl ?_
    refine go_aloadN C (pc' := 206) d5_205 rfl rfl rfl ?_
    have fx146 := (((((F50.ext E51).other W53 (Or.inr (sn_35 hw).symm)).other W138 (Or.inl (ne_i (by omega)))).other W139 (Or.inl (ne_i (by omega)))).other W144 (Or.inl (ne_i (by omega))))
    refine gF C (pc' := 209) (wd_64 hw) fx146 d5_206 rfl ?_
    refine go_icmpNo C (pc' := 212) d5_209 (by decide) rfl ?_
    refine go_aloadN C (pc' := 213) d5_212 rfl rfl rfl ?_
    refine gF C (pc' := 216) (wd_62 hw) (fx140.other W144 (Or.inl (ne_i (by omega)))) d5_213 rfl ?_
    refine go_iload C (pc' := 218) d5_216 rfl rfl ?_
    refine go_iaget C (pc' := 219) fx145 (by decide) (i := 1) (by decide) rfl d5_218 rfl ?_
    refine go_istore C (pc' := 221) d5_219 (Ls' := #[(.val (.ref b)), (.val (.ref al)), (.val (.ref ah)), (.val (.int (4 : Int32))), (.val (.int (4 : Int32))), (.val (.ref b21)), (.val (.int (2 : Int32))), (.val (.int ((0 : Int32) + w3))), (.val (.int (1 : Int32))), (.val (.int (3 : Int32)))]) rfl rfl ?_
    refine go_iload C (pc' := 223) d5_221 rfl rfl ?_
    refine go_aloadN C (pc' := 224) d5_223 rfl rfl rfl ?_
    refine gF C (pc' := 227) (wd_62 hw) (fx140.other W144 (Or.inl (ne_i (by omega)))) d5_224 rfl ?_
    refine go_iload C (pc' := 229) d5_227 rfl rfl ?_
    refine go_iconst C (pc' := 230) d5_229 (z := (1 : Int32)) (by decide) rfl ?_
    refine go_iadd C (pc' := 231) d5_230 rfl ?_
    refine go_st (st' := [(.int (2 : Int32)), (.ref fi), (.int (3 : Int32))]) (by rw [show ((1 : Int32) + (1 : Int32)) = (2 : Int32) from by decide]) ?_
    refine go_iaget C (pc' := 232) fx145 (by decide) (i := 2) (by decide) rfl d5_231 rfl ?_
    refine go_icmpNo C (pc' := 235) d5_232 (by decide) rfl ?_
    refine go_iload C (pc' := 237) d5_235 rfl rfl ?_
    refine go_iloadN C (pc' := 238) d5_237 rfl rfl ?_
    refine go_icmpNo C (pc' := 241) d5_238 (by decide) rfl ?_
    refine go_aloadN C (pc' := 242) d5_241 rfl rfl rfl ?_
    refine gF C (pc' := 245) (wd_66 hw) (fx141.other W144 (Or.inl (ne_i (by omega)))) d5_242 rfl ?_
    refine go_iload C (pc' := 247) d5_245 rfl rfl ?_
    refine go_dup2 C (pc' := 248) d5_247 rfl rfl rfl ?_
    refine go_laget C (pc' := 249) A144 (by decide) (i := 1) (by decide) rfl d5_248 rfl ?_
    refine go_aloadN C (pc' := 250) d5_249 rfl rfl rfl ?_
    refine gF C (pc' := 253) (wd_42 hw) (fx142.other W144 (Or.inl (ne_i (by omega)))) d5_250 rfl ?_
    refine go_iload C (pc' := 255) d5_253 rfl rfl ?_
    have fx147 := (((fx75.other W138 (ne_i (by omega))).other W139 (ne_i (by omega))).other W144 (ne_i (by omega)))
    refine go_laget C (pc' := 256) fx147 (by decide) (i := 3) (by decide) rfl d5_255 rfl ?_
    refine go_aloadN C (pc' := 257) d5_256 rfl rfl rfl ?_
    refine gF C (pc' := 260) (wd_40 hw) (fx143.other W144 (Or.inl (ne_i (by omega)))) d5_257 rfl ?_
    refine go_iload C (pc' := 262) d5_260 rfl rfl ?_
    have fx148 := (((fx74.other W138 (ne_i (by omega))).other W139 (ne_i (by omega))).other W144 (ne_i (by omega)))
    refine go_iaget C (pc' := 263) fx148 (by decide) (i := 3) (by decide) rfl d5_262 rfl ?_
    refine go_lshl C (pc' := 264) d5_263 rfl ?_
    refine go_lor C (pc' := 265) d5_264 rfl ?_
    refine go_laset C (pc' := 266) A144 (by decide) (i := 1) (by decide) (by simp) (vs' := [(.long ((((0 : Int64) ||| (m0 <<< ((0 : Int32) &&& 0x3f).toInt64)) ||| (m1 <<< (s1 &&& 0x3f).toInt64)) ||| (m2 <<< (s2 &&& 0x3f).toInt64))), (.long ((0 : Int64) ||| (m3 <<< ((0 : Int32) &&& 0x3f).toInt64)))]) rfl d5_265 rfl n51 ?_
    intro h149 W149 A149
    refine go_old fun O149 => ?_
    refine gI C (pc' := 269) d5_266 rfl (z := (4 : Int32)) (by decide) (Ls' := #[(.val (.ref b)), (.val (.ref al)), (.val (.ref ah)), (.val (.int (4 : Int32))), (.val (.int (4 : Int32))), (.val (.ref b21)), (.val (.int (2 : Int32))), (.val (.int ((0 : Int32) + w3))), (.val (.int (1 : Int32))), (.val (.int (4 : Int32)))]) rfl rfl ?_
    refine go_goto C (pc' := 221) d5_269 (by decide) (by decide) ?_
    refine go_iload C (pc' := 223) d5_221 rfl rfl ?_
    refine go_aloadN C (pc' := 224) d5_223 rfl rfl rfl ?_
    have fx150 := ((fx140.other W144 (Or.inl (ne_i (by omega)))).other W149 (Or.inl (ne_i (by omega))))
    refine gF C (pc' := 227) (wd_62 hw) fx150 d5_224 rfl ?_
    refine go_iload C (pc' := 229) d5_227 rfl rfl ?_
    refine go_iconst C (pc' := 230) d5_229 (z := (1 : Int32)) (by decide) rfl ?_
    refine go_iadd C (pc' := 231) d5_230 rfl ?_
    refine go_st (st' := [(.int (2 : Int32)), (.ref fi), (.int (4 : Int32))]) (by rw [show ((1 : Int32) + (1 : Int32)) = (2 : Int32) from by decide]) ?_
    refine go_iaget C (pc' := 232) (fx145.other W149 (ne_i (by omega))) (by decide) (i := 2) (by decide) rfl d5_231 rfl ?_
    refine go_icmpYes C (pc' := 272) d5_232 (by decide) (by decide) (by decide) ?_
    refine gI C (pc' := 275) d5_272 rfl (z := (2 : Int32)) (by decide) (Ls' := #[(.val (.ref b)), (.val (.ref al)), (.val (.ref ah)), (.val (.int (4 : Int32))), (.val (.int (4 : Int32))), (.val (.ref b21)), (.val (.int (2 : Int32))), (.val (.int ((0 : Int32) + w3))), (.val (.int (2 : Int32))), (.val (.int (4 : Int32)))]) rfl rfl ?_
    refine go_goto C (pc' := 203) d5_275 (by decide) (by decide) ?_
    refine go_iload C (pc' := 205) d5_203 rfl rfl ?_
    refine go_aloadN C (pc' := 206) d5_205 rfl rfl rfl ?_
    refine gF C (pc' := 209) (wd_64 hw) (fx146.other W149 (Or.inl (ne_i (by omega)))) d5_206 rfl ?_
    refine go_icmpYes C (pc' := 278) d5_209 (by decide) (by decide) (by decide) ?_
    have fx151 := ((((((((fx47.wr W48).wr W50).ext E51).wr W53).wr W138).wr W139).wr W144).wr W149)
    have fx152 := ((((fx58.other W138 (Or.inl (ne_i (by omega)))).other W139 (Or.inl (ne_i (by omega)))).other W144 (Or.inl (ne_i (by omega)))).other W149 (Or.inl (ne_i (by omega))))
    have fx153 := ((((fx59.other W138 (Or.inl (ne_i (by omega)))).other W139 (Or.inl (ne_i (by omega)))).other W144 (Or.inl (ne_i (by omega)))).other W149 (Or.inl (ne_i (by omega))))
    have fx154 := ((fx143.other W144 (Or.inl (ne_i (by omega)))).other W149 (Or.inl (ne_i (by omega))))
    have fx155 := ((fx142.other W144 (Or.inl (ne_i (by omega)))).other W149 (Or.inl (ne_i (by omega))))
    have fx156 := ((fx141.other W144 (Or.inl (ne_i (by omega)))).other W149 (Or.inl (ne_i (by omega))))
    have fx157 := ((((fx63.other W138 (Or.inl (ne_i (by omega)))).other W139 (Or.inl (ne_i (by omega)))).other W144 (Or.inl (ne_i (by omega)))).other W149 (Or.inl (ne_i (by omega))))
    have fx158 := ((((fx64.other W138 (Or.inl (ne_i (by omega)))).other W139 (Or.inl (ne_i (by omega)))).other W144 (Or.inl (ne_i (by omega)))).other W149 (Or.inl (ne_i (by omega))))
    have fx159 := ((((fx65.other W138 (Or.inl (ne_i (by omega)))).other W139 (Or.inl (ne_i (by omega)))).other W144 (Or.inl (ne_i (by omega)))).other W149 (Or.inl (ne_i (by omega))))
    have fx160 := ((((fx66.other W138 (Or.inl (ne_i (by omega)))).other W139 (Or.inl (ne_i (by omega)))).other W144 (Or.inl (ne_i (by omega)))).other W149 (Or.inl (ne_i (by omega))))
    have fx161 := ((((fx67.other W138 (Or.inl (ne_i (by omega)))).other W139 (Or.inl (ne_i (by omega)))).other W144 (Or.inl (ne_i (by omega)))).other W149 (Or.inl (ne_i (by omega))))
    have fx162 := ((((fx68.other W138 (ne_i (by omega))).other W139 (ne_i (by omega))).other W144 (ne_i (by omega))).other W149 (ne_i (by omega)))
    have fx163 := ((((fx69.other W138 (ne_i (by omega))).other W139 (ne_i (by omega))).other W144 (ne_i (by omega))).other W149 (ne_i (by omega)))
    have fx164 := ((((fx70.other W138 (ne_i (by omega))).other W139 (ne_i (by omega))).other W144 (ne_i (by omega))).other W149 (ne_i (by omega)))
    have fx165 := ((((fx72.other W138 (ne_i (by omega))).other W139 (ne_i (by omega))).other W144 (ne_i (by omega))).other W149 (ne_i (by omega)))
    exact J _ _ _ _ fx151 fx152 fx153 fx150 (fx146.other W149 (Or.inl (ne_i (by omega)))) fx154 fx155 fx156 fx157 fx158 fx159 fx160 fx161 fx162 fx163 fx164 fx165 (fx148.other W149 (ne_i (by omega))) (fx147.other W149 (ne_i (by omega))) (fx145.other W149 (ne_i (by omega))) A149 (((((((((((((((((((((((((((((((((Keep.refl _ [b]).ext E1).wr W2 (Or.inl (by simp))).ext E3).wr W4 (Or.inl (by simp))).ext E5).wr W8 (Or.inl (by simp))).ext E9).wr W12 (Or.inl (by simp))).ext E14).wr W17 (Or.inl (by simp))).ext E18).wr W20 (Or.inl (by simp))).ext E21).wr W24 (Or.inr sz_b14)).wr W26 (Or.inr sz_b18)).wr W29 (Or.inr sz_b14)).wr W31 (Or.inr sz_b18)).wr W35 (Or.inr sz_b14)).wr W37 (Or.inr sz_b18)).wr W38 (Or.inr sz_b21)).wr W41 (Or.inr sz_b14)).wr W43 (Or.inr sz_b18)).wr W44 (Or.inr sz_b21)).trans Kfi all0).wr W48 (Or.inl (by simp))).wr W50 (Or.inl (by simp))).ext E51).wr W53 (Or.inl (by simp))).wr W138 (Or.inr sz_b51)).wr W139 (Or.inr sz_b51)).wr W144 (Or.inr sz_b51)).wr W149 (Or.inr sz_b51))
def pt (c lw sf : Int32) : Int64 := (c.toInt64 - lw.toInt64) <<< (sf &&& 0x3f).toInt64
def hst (a q k : Int64) : Int64 := (a + (q &&& k)) * (-7046029254386353131)
def hx (a : Int64) : Int64 := a ^^^ (a.toUInt64 >>> ((33 : Int32) &&& 0x3f).toInt64.toUInt64).toInt64
def hfin (a : Int64) : Int32 := (hx ((hx a) * (-49064778989728563))).toInt32
def hi32 (en : Int64) : Int32 := ((en.toUInt64 >>> ((32 : Int32) &&& 0x3f).toInt64.toUInt64).toInt64).toInt32
def ent (hs : Int32) (z : Int64) : Int64 := (hs.toInt64 <<< ((32 : Int32) &&& 0x3f).toInt64) ||| z
theorem and127 (x : Int32) : ¬ (x &&& (127 : Int32)) < 0 ∧ (x &&& (127 : Int32)).toNatClampNeg < 128 := by
  have h := c_and x 127 (by decide)
  have h3 : (127 : Int32).toInt = 127 := by decide
  have h0 : (0 : Int32).toInt = 0 := by decide
  rw [Int32.lt_iff_toInt_lt, h0, Int32.toNatClampNeg]
  omega
def T0 (vt : List Value) : Prop := vt.length = 128 ∧ ∀ x : Nat, x < 128 → vt[x]? = some (.long 0)
def T1 (vt : List Value) (g : Int32) : Prop := vt.length = 128 ∧ (∀ x : Nat, x < 128 → x ≠ (g &&& (127 : Int32)).toNatClampNeg → vt[x]? = some (.long 0)) ∧ vt[(g &&& (127 : Int32)).toNatClampNeg]? = some (.long (ent g 1))
theorem T1.of {vt : List Value} {g : Int32} (T : T0 vt) : T1 (vt.set (g &&& (127 : Int32)).toNatClampNeg (.long (ent g 1))) g := by
  refine ⟨by rw [List.length_set]; exact T.1, fun x hx hn => ?_, ?_⟩
  · rw [List.getElem?_set_ne (Ne.symm hn)]; exact T.2 x hx
  · rw [List.getElem?_set_self (by rw [T.1]; exact (and127 g).2)]
theorem next_ne (x : Int32) : (((x &&& (127 : Int32)) + (1 : Int32)) &&& (127 : Int32)).toNatClampNeg ≠ (x &&& (127 : Int32)).toNatClampNeg := by
  have h := c_and x 127 (by decide)
  have h3 : (127 : Int32).toInt = 127 := by decide
  have h1 : (1 : Int32).toInt = 1 := by decide
  generalize x &&& (127 : Int32) = y at h ⊢
  have a := c_iadd y 1
  have r := rng32 (y + 1)
  have k := c_mask (y + 1) 127 7 (by decide) (by decide)
  rw [Int32.toNatClampNeg, Int32.toNatClampNeg, k]
  omega
def un (part : Int64) (sf : Int32) (mk : Int64) (lw : Int32) : Int32 := (((part.toUInt64 >>> (sf &&& 0x3f).toInt64.toUInt64).toInt64 &&& mk) + lw.toInt64).toInt32
theorem ent_toInt (g : Int32) : (ent g 1).toInt = g.toInt * 4294967296 + 1 := by
  have a := c_lshl g.toInt64 32 32 (by decide)
  have e := c_i2l g
  have r := rng32 g
  have r2 := rng64 (g.toInt64 <<< ((32 : Int32) &&& 0x3f).toInt64)
  have h1 : (1 : Int64).toInt = 1 := by decide
  have P : ((2 ^ 32 : Nat) : Int) = 4294967296 := by decide
  rw [P, e] at a
  have b := c_orL (g.toInt64 <<< ((32 : Int32) &&& 0x3f).toInt64) 1 32 (by decide) 4294967296 (by decide) (by omega) (by omega) (by omega)
  have r3 := rng64 ((g.toInt64 <<< ((32 : Int32) &&& 0x3f).toInt64) ||| 1)
  show ((g.toInt64 <<< ((32 : Int32) &&& 0x3f).toInt64) ||| 1).toInt = _
  omega
theorem ent_num (g : Int32) : ((ent g 1).toInt32 - (1 : Int32)) = 0 := by
  have a := ent_toInt g
  have b := c_l2i (ent g 1)
  have r := rng32 (ent g 1).toInt32
  have c := c_isub (ent g 1).toInt32 1
  have r2 := rng32 ((ent g 1).toInt32 - 1)
  have h1 : (1 : Int32).toInt = 1 := by decide
  have h0 : (0 : Int32).toInt = 0 := by decide
  refine Int32.toInt_inj.mp ?_
  omega
theorem ent_ne (g : Int32) : ¬ ent g 1 = 0 := fun z => by
  have a := ent_toInt g
  have h0 : (0 : Int64).toInt = 0 := by decide
  rw [z] at a
  omega
theorem ent_hi (g : Int32) : hi32 (ent g 1) = g := by
  have a := ent_toInt g
  have b := c_lushr (ent g 1) 32 32 (by decide) (by decide)
  have c := c_l2i (((ent g 1).toUInt64 >>> ((32 : Int32) &&& 0x3f).toInt64.toUInt64).toInt64)
  have r := rng32 g
  have r2 := rng32 (((ent g 1).toUInt64 >>> ((32 : Int32) &&& 0x3f).toInt64.toUInt64).toInt64).toInt32
  have P : ((2 ^ 32 : Nat) : Int) = 4294967296 := by decide
  rw [P] at b
  refine Int32.toInt_inj.mp ?_
  show (((ent g 1).toUInt64 >>> ((32 : Int32) &&& 0x3f).toInt64.toUInt64).toInt64).toInt32.toInt = _
  omega
set_option maxRecDepth 65536 in
set_option maxHeartbeats 4000000 in
theorem cap_met (l : Launch) (Z : State) (a0 : Array Value) (hw : ∀ d ∈ tables_1, d.before a0 Z = true) (n0 : Nat) (h : Heap) (O : Old Z n0 h) (b : Nat) :
    Met l Z n0 (⟨"com/example/invariant/invariant/check/ConfigurationStore", "capacity", "()I"⟩ : MethodName) prog_52_method_3_code 1 (some .int) [] ({ frames := 0, cells := 0, slots := 0, locals := 0 } : Room) #[(.ref b)] h (fun v h' => v = some (.int (536870912 : Int32)) ∧ h = h') := by
  refine met_of (Ls := #[(.val (.ref b))]) (by decide +kernel) (fun m => by first | (simp [entryFrame, mkF, argsToLocals, Value.category]; done) | rfl) O ?_
  intro p e s m below meth cd C
  refine go_ldcInt C (pc' := 2) (wd_106 hw) d6_0 rfl ?_
  exact go_retI C d6_2 (by decide) (by decide) ⟨rfl, rfl⟩
set_option maxRecDepth 65536 in
set_option maxHeartbeats 4000000 in
theorem pack1_met (l : Launch) (Z : State) (a0 : Array Value) (hw : ∀ d ∈ tables_1, d.before a0 Z = true) (n0 : Nat) (h : Heap) (O : Old Z n0 h)  {b pgs tb lo hi sh mk fi km pk : Nat} {kpgs ktb klo khi ksh kmk kfi kkm kpk : ClassId} {l0 u0 l1 u1 l2 u2 l3 u3 s1 s2 s3 : Int32} {m0 m1 m2 m3 KM0 : Int64} {sz : Int32} {vp vt : List Value} {p0 : Int64} (S : Sto Z h b pgs tb lo hi sh mk fi km pk kpgs ktb klo khi ksh kmk kfi kkm kpk (1 : Int32) (20 : Int32) sz vp vt [(.int l0), (.int l1), (.int l2), (.int l3)] [(.int u0), (.int u1), (.int u2), (.int u3)] [(.int (0 : Int32)), (.int s1), (.int s2), (.int s3)] [(.long m0), (.long m1), (.long m2), (.long m3)] [(.int (0 : Int32)), (.int (4 : Int32))] [(.long KM0)] [(.long p0)]) (o : Ord n0 b pgs tb lo hi sh mk fi km pk) {cf : Nat} {kcf : ClassId} {c0 c1 c2 c3 : Int32} (Acf : Ar Z h cf .int kcf [(.int c0), (.int c1), (.int c2), (.int c3)]) (qcf : cf < b) (hl0 : ¬ c0 < l0) (hu0 : ¬ u0 < c0) (hl1 : ¬ c1 < l1) (hu1 : ¬ u1 < c1) (hl2 : ¬ c2 < l2) (hu2 : ¬ u2 < c2) (hl3 : ¬ c3 < l3) (hu3 : ¬ u3 < c3) :
    Met l Z n0 (⟨"com/example/invariant/invariant/check/ConfigurationStore", "pack", "([I)I"⟩ : MethodName) prog_52_method_14_code 9 (some .int) [] ({ frames := 0, cells := 0, slots := 0, locals := 0 } : Room) #[(.ref b), (.ref cf)] h (fun v h' => v = some (.int (hfin (hst (0 : Int64) (((((0 : Int64) ||| (pt c0 l0 (0 : Int32))) ||| (pt c1 l1 s1)) ||| (pt c2 l2 s2)) ||| (pt c3 l3 s3)) KM0))) ∧ Sto Z h' b pgs tb lo hi sh mk fi km pk kpgs ktb klo khi ksh kmk kfi kkm kpk (1 : Int32) (20 : Int32) sz vp vt [(.int l0), (.int l1), (.int l2), (.int l3)] [(.int u0), (.int u1), (.int u2), (.int u3)] [(.int (0 : Int32)), (.int s1), (.int s2), (.int s3)] [(.long m0), (.long m1), (.long m2), (.long m3)] [(.int (0 : Int32)), (.int (4 : Int32))] [(.long KM0)] [(.long (((((0 : Int64) ||| (pt c0 l0 (0 : Int32))) ||| (pt c1 l1 s1)) ||| (pt c2 l2 s2)) ||| (pt c3 l3 s3)))] ∧ Keep h h' [pk]) := by
  refine met_of (Ls := #[(.val (.ref b)), (.val (.ref cf)), .unset, .unset, .unset, .unset, .unset, .unset, .unset]) (by decide +kernel) (fun m => by first | (simp [entryFrame, mkF, argsToLocals, Value.category]; done) | rfl) O ?_
  intro p e s m below meth cd C
  obtain ⟨o0, o1, o2, o3, o4, o5, o6, o7, o8, o9⟩ := o
  refine go_lconst C (pc' := 1) d7_0 (z := (0 : Int64)) (by decide) rfl ?_
  refine go_lstoreN C (pc' := 2) d7_1 (Ls' := #[(.val (.ref b)), (.val (.ref cf)), (.val (.long (0 : Int64))), .second, .unset, .unset, .unset, .unset, .unset]) rfl rfl ?_
  refine go_iconst C (pc' := 3) d7_2 (z := (0 : Int32)) (by decide) rfl ?_
  refine go_istore C (pc' := 5) d7_3 (Ls' := #[(.val (.ref b)), (.val (.ref cf)), (.val (.long (0 : Int64))), .second, (.val (.int (0 : Int32))), .unset, .unset, .unset, .unset]) rfl rfl ?_
  refine go_iload C (pc' := 7) d7_5 rfl rfl ?_
  refine go_aloadN C (pc' := 8) d7_7 rfl rfl rfl ?_
  refine gF C (pc' := 11) (wd_64 hw) S.2.2.2.2.1 d7_8 rfl ?_
  refine go_icmpNo C (pc' := 14) d7_11 (by decide) rfl ?_
  refine go_lconst C (pc' := 15) d7_14 (z := (0 : Int64)) (by decide) rfl ?_
  refine go_lstore C (pc' := 17) d7_15 (Ls' := #[(.val (.ref b)), (.val (.ref cf)), (.val (.long (0 : Int64))), .second, (.val (.int (0 : Int32))), (.val (.long (0 : Int64))), .second, .unset, .unset]) rfl rfl ?_
  refine go_aloadN C (pc' := 18) d7_17 rfl rfl rfl ?_
  refine gF C (pc' := 21) (wd_62 hw) S.2.2.2.1 d7_18 rfl ?_
  refine go_iload C (pc' := 23) d7_21 rfl rfl ?_
  refine go_iaget C (pc' := 24) S.2.2.2.2.2.2.2.2.2.2.2.2.2.2.2.2.2.2.2.1 (by decide) (i := 0) (by decide) rfl d7_23 rfl ?_
  refine go_istore C (pc' := 26) d7_24 (Ls' := #[(.val (.ref b)), (.val (.ref cf)), (.val (.long (0 : Int64))), .second, (.val (.int (0 : Int32))), (.val (.long (0 : Int64))), .second, (.val (.int (0 : Int32))), .unset]) rfl rfl ?_
  refine go_iload C (pc' := 28) d7_26 rfl rfl ?_
  refine go_aloadN C (pc' := 29) d7_28 rfl rfl rfl ?_
  refine gF C (pc' := 32) (wd_62 hw) S.2.2.2.1 d7_29 rfl ?_
  refine go_iload C (pc' := 34) d7_32 rfl rfl ?_
  refine go_iconst C (pc' := 35) d7_34 (z := (1 : Int32)) (by decide) rfl ?_
  refine go_iadd C (pc' := 36) d7_35 rfl ?_
  refine go_st (st' := [(.int (1 : Int32)), (.ref fi), (.int (0 : Int32))]) (by rw [show ((0 : Int32) + (1 : Int32)) = (1 : Int32) from by decide]) ?_
  refine go_iaget C (pc' := 37) S.2.2.2.2.2.2.2.2.2.2.2.2.2.2.2.2.2.2.2.1 (by decide) (i := 1) (by decide) rfl d7_36 rfl ?_
  refine go_icmpNo C (pc' := 40) d7_37 (by decide) rfl ?_
  refine go_aloadN C (pc' := 41) d7_40 rfl rfl rfl ?_
  refine go_iload C (pc' := 43) d7_41 rfl rfl ?_
  refine go_iaget C (pc' := 44) Acf (by decide) (i := 0) (by decide) rfl d7_43 rfl ?_
  refine go_istore C (pc' := 46) d7_44 (Ls' := #[(.val (.ref b)), (.val (.ref cf)), (.val (.long (0 : Int64))), .second, (.val (.int (0 : Int32))), (.val (.long (0 : Int64))), .second, (.val (.int (0 : Int32))), (.val (.int c0))]) rfl rfl ?_
  refine go_iload C (pc' := 48) d7_46 rfl rfl ?_
  refine go_aloadN C (pc' := 49) d7_48 rfl rfl rfl ?_
  refine gF C (pc' := 52) (wd_36 hw) S.2.1 d7_49 rfl ?_
  refine go_iload C (pc' := 54) d7_52 rfl rfl ?_
  refine go_iaget C (pc' := 55) S.2.2.2.2.2.2.2.2.2.2.2.2.2.2.2.1 (by decide) (i := 0) (by decide) rfl d7_54 rfl ?_
  refine go_icmpNo C (pc' := 58) d7_55 (flt hl0).1 rfl ?_
  refine go_iload C (pc' := 60) d7_58 rfl rfl ?_
  refine go_aloadN C (pc' := 61) d7_60 rfl rfl rfl ?_
  refine gF C (pc' := 64) (wd_38 hw) S.2.2.1 d7_61 rfl ?_
  refine go_iload C (pc' := 66) d7_64 rfl rfl ?_
  refine go_iaget C (pc' := 67) S.2.2.2.2.2.2.2.2.2.2.2.2.2.2.2.2.1 (by decide) (i := 0) (by decide) rfl d7_66 rfl ?_
  refine go_icmpYes C (pc' := 101) d7_67 (flt hu0).2.2.2 (by decide) (by decide) ?_
  refine go_lload C (pc' := 103) d7_101 rfl rfl ?_
  refine go_iload C (pc' := 105) d7_103 rfl rfl ?_
  refine go_i2l C (pc' := 106) d7_105 rfl ?_
  refine go_aloadN C (pc' := 107) d7_106 rfl rfl rfl ?_
  refine gF C (pc' := 110) (wd_36 hw) S.2.1 d7_107 rfl ?_
  refine go_iload C (pc' := 112) d7_110 rfl rfl ?_
  refine go_iaget C (pc' := 113) S.2.2.2.2.2.2.2.2.2.2.2.2.2.2.2.1 (by decide) (i := 0) (by decide) rfl d7_112 rfl ?_
  refine go_i2l C (pc' := 114) d7_113 rfl ?_
  refine go_lsub C (pc' := 115) d7_114 rfl ?_
  refine go_aloadN C (pc' := 116) d7_115 rfl rfl rfl ?_
  refine gF C (pc' := 119) (wd_40 hw) S.2.2.2.2.2.1 d7_116 rfl ?_
  refine go_iload C (pc' := 121) d7_119 rfl rfl ?_
  refine go_iaget C (pc' := 122) S.2.2.2.2.2.2.2.2.2.2.2.2.2.2.2.2.2.1 (by decide) (i := 0) (by decide) rfl d7_121 rfl ?_
  refine go_lshl C (pc' := 123) d7_122 rfl ?_
  refine go_lor C (pc' := 124) d7_123 rfl ?_
  refine go_lstore C (pc' := 126) d7_124 (Ls' := #[(.val (.ref b)), (.val (.ref cf)), (.val (.long (0 : Int64))), .second, (.val (.int (0 : Int32))), (.val (.long ((0 : Int64) ||| (((c0).toInt64 - (l0).toInt64) <<< ((0 : Int32) &&& 0x3f).toInt64)))), .second, (.val (.int (0 : Int32))), (.val (.int c0))]) rfl rfl ?_
  refine go_ls (Ls' := #[(.val (.ref b)), (.val (.ref cf)), (.val (.long (0 : Int64))), .second, (.val (.int (0 : Int32))), (.val (.long ((0 : Int64) ||| (pt c0 l0 (0 : Int32))))), .second, (.val (.int (0 : Int32))), (.val (.int c0))]) rfl ?_
  refine gI C (pc' := 129) d7_126 rfl (z := (1 : Int32)) (by decide) (Ls' := #[(.val (.ref b)), (.val (.ref cf)), (.val (.long (0 : Int64))), .second, (.val (.int (0 : Int32))), (.val (.long ((0 : Int64) ||| (pt c0 l0 (0 : Int32))))), .second, (.val (.int (1 : Int32))), (.val (.int c0))]) rfl rfl ?_
  refine go_goto C (pc' := 26) d7_129 (by decide) (by decide) ?_
  refine go_iload C (pc' := 28) d7_26 rfl rfl ?_
  refine go_aloadN C (pc' := 29) d7_28 rfl rfl rfl ?_
  refine gF C (pc' := 32) (wd_62 hw) S.2.2.2.1 d7_29 rfl ?_
  refine go_iload C (pc' := 34) d7_32 rfl rfl ?_
  refine go_iconst C (pc' := 35) d7_34 (z := (1 : Int32)) (by decide) rfl ?_
  refine go_iadd C (pc' := 36) d7_35 rfl ?_
  refine go_st (st' := [(.int (1 : Int32)), (.ref fi), (.int (1 : Int32))]) (by rw [show ((0 : Int32) + (1 : Int32)) = (1 : Int32) from by decide]) ?_
  refine go_iaget C (pc' := 37) S.2.2.2.2.2.2.2.2.2.2.2.2.2.2.2.2.2.2.2.1 (by decide) (i := 1) (by decide) rfl d7_36 rfl ?_
  refine go_icmpNo C (pc' := 40) d7_37 (by decide) rfl ?_
  refine go_aloadN C (pc' := 41) d7_40 rfl rfl rfl ?_
  refine go_iload C (pc' := 43) d7_41 rfl rfl ?_
  refine go_iaget C (pc' := 44) Acf (by decide) (i := 1) (by decide) rfl d7_43 rfl ?_
  refine go_istore C (pc' := 46) d7_44 (Ls' := #[(.val (.ref b)), (.val (.ref cf)), (.val (.long (0 : Int64))), .second, (.val (.int (0 : Int32))), (.val (.long ((0 : Int64) ||| (pt c0 l0 (0 : Int32))))), .second, (.val (.int (1 : Int32))), (.val (.int c1))]) rfl rfl ?_
  refine go_iload C (pc' := 48) d7_46 rfl rfl ?_
  refine go_aloadN C (pc' := 49) d7_48 rfl rfl rfl ?_
  refine gF C (pc' := 52) (wd_36 hw) S.2.1 d7_49 rfl ?_
  refine go_iload C (pc' := 54) d7_52 rfl rfl ?_
  refine go_iaget C (pc' := 55) S.2.2.2.2.2.2.2.2.2.2.2.2.2.2.2.1 (by decide) (i := 1) (by decide) rfl d7_54 rfl ?_
  refine go_icmpNo C (pc' := 58) d7_55 (flt hl1).1 rfl ?_
  refine go_iload C (pc' := 60) d7_58 rfl rfl ?_
  refine go_aloadN C (pc' := 61) d7_60 rfl rfl rfl ?_
  refine gF C (pc' := 64) (wd_38 hw) S.2.2.1 d7_61 rfl ?_
  refine go_iload C (pc' := 66) d7_64 rfl rfl ?_
  refine go_iaget C (pc' := 67) S.2.2.2.2.2.2.2.2.2.2.2.2.2.2.2.2.1 (by decide) (i := 1) (by decide) rfl d7_66 rfl ?_
  refine go_icmpYes C (pc' := 101) d7_67 (flt hu1).2.2.2 (by decide) (by decide) ?_
  refine go_lload C (pc' := 103) d7_101 rfl rfl ?_
  refine go_iload C (pc' := 105) d7_103 rfl rfl ?_
  refine go_i2l C (pc' := 106) d7_105 rfl ?_
  refine go_aloadN C (pc' := 107) d7_106 rfl rfl rfl ?_
  refine gF C (pc' := 110) (wd_36 hw) S.2.1 d7_107 rfl ?_
  refine go_iload C (pc' := 112) d7_110 rfl rfl ?_
  refine go_iaget C (pc' := 113) S.2.2.2.2.2.2.2.2.2.2.2.2.2.2.2.1 (by decide) (i := 1) (by decide) rfl d7_112 rfl ?_
  refine go_i2l C (pc' := 114) d7_113 rfl ?_
  refine go_lsub C (pc' := 115) d7_114 rfl ?_
  refine go_aloadN C (pc' := 116) d7_115 rfl rfl rfl ?_
  refine gF C (pc' := 119) (wd_40 hw) S.2.2.2.2.2.1 d7_116 rfl ?_
  refine go_iload C (pc' := 121) d7_119 rfl rfl ?_
  refine go_iaget C (pc' := 122) S.2.2.2.2.2.2.2.2.2.2.2.2.2.2.2.2.2.1 (by decide) (i := 1) (by decide) rfl d7_121 rfl ?_
  refine go_lshl C (pc' := 123) d7_122 rfl ?_
  refine go_lor C (pc' := 124) d7_123 rfl ?_
  refine go_lstore C (pc' := 126) d7_124 (Ls' := #[(.val (.ref b)), (.val (.ref cf)), (.val (.long (0 : Int64))), .second, (.val (.int (0 : Int32))), (.val (.long (((0 : Int64) ||| (pt c0 l0 (0 : Int32))) ||| (((c1).toInt64 - (l1).toInt64) <<< (s1 &&& 0x3f).toInt64)))), .second, (.val (.int (1 : Int32))), (.val (.int c1))]) rfl rfl ?_
  refine go_ls (Ls' := #[(.val (.ref b)), (.val (.ref cf)), (.val (.long (0 : Int64))), .second, (.val (.int (0 : Int32))), (.val (.long (((0 : Int64) ||| (pt c0 l0 (0 : Int32))) ||| (pt c1 l1 s1)))), .second, (.val (.int (1 : Int32))), (.val (.int c1))]) rfl ?_
  refine gI C (pc' := 129) d7_126 rfl (z := (2 : Int32)) (by decide) (Ls' := #[(.val (.ref b)), (.val (.ref cf)), (.val (.long (0 : Int64))), .second, (.val (.int (0 : Int32))), (.val (.long (((0 : Int64) ||| (pt c0 l0 (0 : Int32))) ||| (pt c1 l1 s1)))), .second, (.val (.int (2 : Int32))), (.val (.int c1))]) rfl rfl ?_
  refine go_goto C (pc' := 26) d7_129 (by decide) (by decide) ?_
  refine go_iload C (pc' := 28) d7_26 rfl rfl ?_
  refine go_aloadN C (pc' := 29) d7_28 rfl rfl rfl ?_
  refine gF C (pc' := 32) (wd_62 hw) S.2.2.2.1 d7_29 rfl ?_
  refine go_iload C (pc' := 34) d7_32 rfl rfl ?_
  refine go_iconst C (pc' := 35) d7_34 (z := (1 : Int32)) (by decide) rfl ?_
  refine go_iadd C (pc' := 36) d7_35 rfl ?_
  refine go_st (st' := [(.int (1 : Int32)), (.ref fi), (.int (2 : Int32))]) (by rw [show ((0 : Int32) + (1 : Int32)) = (1 : Int32) from by decide]) ?_
  refine go_iaget C (pc' := 37) S.2.2.2.2.2.2.2.2.2.2.2.2.2.2.2.2.2.2.2.1 (by decide) (i := 1) (by decide) rfl d7_36 rfl ?_
  refine go_icmpNo C (pc' := 40) d7_37 (by decide) rfl ?_
  refine go_aloadN C (pc' := 41) d7_40 rfl rfl rfl ?_
  refine go_iload C (pc' := 43) d7_41 rfl rfl ?_
  refine go_iaget C (pc' := 44) Acf (by decide) (i := 2) (by decide) rfl d7_43 rfl ?_
  refine go_istore C (pc' := 46) d7_44 (Ls' := #[(.val (.ref b)), (.val (.ref cf)), (.val (.long (0 : Int64))), .second, (.val (.int (0 : Int32))), (.val (.long (((0 : Int64) ||| (pt c0 l0 (0 : Int32))) ||| (pt c1 l1 s1)))), .second, (.val (.int (2 : Int32))), (.val (.int c2))]) rfl rfl ?_
  refine go_iload C (pc' := 48) d7_46 rfl rfl ?_
  refine go_aloadN C (pc' := 49) d7_48 rfl rfl rfl ?_
  refine gF C (pc' := 52) (wd_36 hw) S.2.1 d7_49 rfl ?_
  refine go_iload C (pc' := 54) d7_52 rfl rfl ?_
  refine go_iaget C (pc' := 55) S.2.2.2.2.2.2.2.2.2.2.2.2.2.2.2.1 (by decide) (i := 2) (by decide) rfl d7_54 rfl ?_
  refine go_icmpNo C (pc' := 58) d7_55 (flt hl2).1 rfl ?_
  refine go_iload C (pc' := 60) d7_58 rfl rfl ?_
  refine go_aloadN C (pc' := 61) d7_60 rfl rfl rfl ?_
  refine gF C (pc' := 64) (wd_38 hw) S.2.2.1 d7_61 rfl ?_
  refine go_iload C (pc' := 66) d7_64 rfl rfl ?_
  refine go_iaget C (pc' := 67) S.2.2.2.2.2.2.2.2.2.2.2.2.2.2.2.2.1 (by decide) (i := 2) (by decide) rfl d7_66 rfl ?_
  refine go_icmpYes C (pc' := 101) d7_67 (flt hu2).2.2.2 (by decide) (by decide) ?_
  refine go_lload C (pc' := 103) d7_101 rfl rfl ?_
  refine go_iload C (pc' := 105) d7_103 rfl rfl ?_
  refine go_i2l C (pc' := 106) d7_105 rfl ?_
  refine go_aloadN C (pc' := 107) d7_106 rfl rfl rfl ?_
  refine gF C (pc' := 110) (wd_36 hw) S.2.1 d7_107 rfl ?_
  refine go_iload C (pc' := 112) d7_110 rfl rfl ?_
  refine go_iaget C (pc' := 113) S.2.2.2.2.2.2.2.2.2.2.2.2.2.2.2.1 (by decide) (i := 2) (by decide) rfl d7_112 rfl ?_
  refine go_i2l C (pc' := 114) d7_113 rfl ?_
  refine go_lsub C (pc' := 115) d7_114 rfl ?_
  refine go_aloadN C (pc' := 116) d7_115 rfl rfl rfl ?_
  refine gF C (pc' := 119) (wd_40 hw) S.2.2.2.2.2.1 d7_116 rfl ?_
  refine go_iload C (pc' := 121) d7_119 rfl rfl ?_
  refine go_iaget C (pc' := 122) S.2.2.2.2.2.2.2.2.2.2.2.2.2.2.2.2.2.1 (by decide) (i := 2) (by decide) rfl d7_121 rfl ?_
  refine go_lshl C (pc' := 123) d7_122 rfl ?_
  refine go_lor C (pc' := 124) d7_123 rfl ?_
  refine go_lstore C (pc' := 126) d7_124 (Ls' := #[(.val (.ref b)), (.val (.ref cf)), (.val (.long (0 : Int64))), .second, (.val (.int (0 : Int32))), (.val (.long ((((0 : Int64) ||| (pt c0 l0 (0 : Int32))) ||| (pt c1 l1 s1)) ||| (((c2).toInt64 - (l2).toInt64) <<< (s2 &&& 0x3f).toInt64)))), .second, (.val (.int (2 : Int32))), (.val (.int c2))]) rfl rfl ?_
  refine go_ls (Ls' := #[(.val (.ref b)), (.val (.ref cf)), (.val (.long (0 : Int64))), .second, (.val (.int (0 : Int32))), (.val (.long ((((0 : Int64) ||| (pt c0 l0 (0 : Int32))) ||| (pt c1 l1 s1)) ||| (pt c2 l2 s2)))), .second, (.val (.int (2 : Int32))), (.val (.int c2))]) rfl ?_
  refine gI C (pc' := 129) d7_126 rfl (z := (3 : Int32)) (by decide) (Ls' := #[(.val (.ref b)), (.val (.ref cf)), (.val (.long (0 : Int64))), .second, (.val (.int (0 : Int32))), (.val (.long ((((0 : Int64) ||| (pt c0 l0 (0 : Int32))) ||| (pt c1 l1 s1)) ||| (pt c2 l2 s2)))), .second, (.val (.int (3 : Int32))), (.val (.int c2))]) rfl rfl ?_
  refine go_goto C (pc' := 26) d7_129 (by decide) (by decide) ?_
  refine go_iload C (pc' := 28) d7_26 rfl rfl ?_
  refine go_aloadN C (pc' := 29) d7_28 rfl rfl rfl ?_
  refine gF C (pc' := 32) (wd_62 hw) S.2.2.2.1 d7_29 rfl ?_
  refine go_iload C (pc' := 34) d7_32 rfl rfl ?_
  refine go_iconst C (pc' := 35) d7_34 (z := (1 : Int32)) (by decide) rfl ?_
  refine go_iadd C (pc' := 36) d7_35 rfl ?_
  refine go_st (st' := [(.int (1 : Int32)), (.ref fi), (.int (3 : Int32))]) (by rw [show ((0 : Int32) + (1 : Int32)) = (1 : Int32) from by decide]) ?_
  refine go_iaget C (pc' := 37) S.2.2.2.2.2.2.2.2.2.2.2.2.2.2.2.2.2.2.2.1 (by decide) (i := 1) (by decide) rfl d7_36 rfl ?_
  refine go_icmpNo C (pc' := 40) d7_37 (by decide) rfl ?_
  refine go_aloadN C (pc' := 41) d7_40 rfl rfl rfl ?_
  refine go_iload C (pc' := 43) d7_41 rfl rfl ?_
  refine go_iaget C (pc' := 44) Acf (by decide) (i := 3) (by decide) rfl d7_43 rfl ?_
  refine go_istore C (pc' := 46) d7_44 (Ls' := #[(.val (.ref b)), (.val (.ref cf)), (.val (.long (0 : Int64))), .second, (.val (.int (0 : Int32))), (.val (.long ((((0 : Int64) ||| (pt c0 l0 (0 : Int32))) ||| (pt c1 l1 s1)) ||| (pt c2 l2 s2)))), .second, (.val (.int (3 : Int32))), (.val (.int c3))]) rfl rfl ?_
  refine go_iload C (pc' := 48) d7_46 rfl rfl ?_
  refine go_aloadN C (pc' := 49) d7_48 rfl rfl rfl ?_
  refine gF C (pc' := 52) (wd_36 hw) S.2.1 d7_49 rfl ?_
  refine go_iload C (pc' := 54) d7_52 rfl rfl ?_
  refine go_iaget C (pc' := 55) S.2.2.2.2.2.2.2.2.2.2.2.2.2.2.2.1 (by decide) (i := 3) (by decide) rfl d7_54 rfl ?_
  refine go_icmpNo C (pc' := 58) d7_55 (flt hl3).1 rfl ?_
  refine go_iload C (pc' := 60) d7_58 rfl rfl ?_
  refine go_aloadN C (pc' := 61) d7_60 rfl rfl rfl ?_
  refine gF C (pc' := 64) (wd_38 hw) S.2.2.1 d7_61 rfl ?_
  refine go_iload C (pc' := 66) d7_64 rfl rfl ?_
  refine go_iaget C (pc' := 67) S.2.2.2.2.2.2.2.2.2.2.2.2.2.2.2.2.1 (by decide) (i := 3) (by decide) rfl d7_66 rfl ?_
  refine go_icmpYes C (pc' := 101) d7_67 (flt hu3).2.2.2 (by decide) (by decide) ?_
  refine go_lload C (pc' := 103) d7_101 rfl rfl ?_
  refine go_iload C (pc' := 105) d7_103 rfl rfl ?_
  refine go_i2l C (pc' := 106) d7_105 rfl ?_
  refine go_aloadN C (pc' := 107) d7_106 rfl rfl rfl ?_
  refine gF C (pc' := 110) (wd_36 hw) S.2.1 d7_107 rfl ?_
  refine go_iload C (pc' := 112) d7_110 rfl rfl ?_
  refine go_iaget C (pc' := 113) S.2.2.2.2.2.2.2.2.2.2.2.2.2.2.2.1 (by decide) (i := 3) (by decide) rfl d7_112 rfl ?_
  refine go_i2l C (pc' := 114) d7_113 rfl ?_
  refine go_lsub C (pc' := 115) d7_114 rfl ?_
  refine go_aloadN C (pc' := 116) d7_115 rfl rfl rfl ?_
  refine gF C (pc' := 119) (wd_40 hw) S.2.2.2.2.2.1 d7_116 rfl ?_
  refine go_iload C (pc' := 121) d7_119 rfl rfl ?_
  refine go_iaget C (pc' := 122) S.2.2.2.2.2.2.2.2.2.2.2.2.2.2.2.2.2.1 (by decide) (i := 3) (by decide) rfl d7_121 rfl ?_
  refine go_lshl C (pc' := 123) d7_122 rfl ?_
  refine go_lor C (pc' := 124) d7_123 rfl ?_
  refine go_lstore C (pc' := 126) d7_124 (Ls' := #[(.val (.ref b)), (.val (.ref cf)), (.val (.long (0 : Int64))), .second, (.val (.int (0 : Int32))), (.val (.long (((((0 : Int64) ||| (pt c0 l0 (0 : Int32))) ||| (pt c1 l1 s1)) ||| (pt c2 l2 s2)) ||| (((c3).toInt64 - (l3).toInt64) <<< (s3 &&& 0x3f).toInt64)))), .second, (.val (.int (3 : Int32))), (.val (.int c3))]) rfl rfl ?_
  refine go_ls (Ls' := #[(.val (.ref b)), (.val (.ref cf)), (.val (.long (0 : Int64))), .second, (.val (.int (0 : Int32))), (.val (.long (((((0 : Int64) ||| (pt c0 l0 (0 : Int32))) ||| (pt c1 l1 s1)) ||| (pt c2 l2 s2)) ||| (pt c3 l3 s3)))), .second, (.val (.int (3 : Int32))), (.val (.int c3))]) rfl ?_
  refine gI C (pc' := 129) d7_126 rfl (z := (4 : Int32)) (by decide) (Ls' := #[(.val (.ref b)), (.val (.ref cf)), (.val (.long (0 : Int64))), .second, (.val (.int (0 : Int32))), (.val (.long (((((0 : Int64) ||| (pt c0 l0 (0 : Int32))) ||| (pt c1 l1 s1)) ||| (pt c2 l2 s2)) ||| (pt c3 l3 s3)))), .second, (.val (.int (4 : Int32))), (.val (.int c3))]) rfl rfl ?_
  refine go_goto C (pc' := 26) d7_129 (by decide) (by decide) ?_
  refine go_iload C (pc' := 28) d7_26 rfl rfl ?_
  refine go_aloadN C (pc' := 29) d7_28 rfl rfl rfl ?_
  refine gF C (pc' := 32) (wd_62 hw) S.2.2.2.1 d7_29 rfl ?_
  refine go_iload C (pc' := 34) d7_32 rfl rfl ?_
  refine go_iconst C (pc' := 35) d7_34 (z := (1 : Int32)) (by decide) rfl ?_
  refine go_iadd C (pc' := 36) d7_35 rfl ?_
  refine go_st (st' := [(.int (1 : Int32)), (.ref fi), (.int (4 : Int32))]) (by rw [show ((0 : Int32) + (1 : Int32)) = (1 : Int32) from by decide]) ?_
  refine go_iaget C (pc' := 37) S.2.2.2.2.2.2.2.2.2.2.2.2.2.2.2.2.2.2.2.1 (by decide) (i := 1) (by decide) rfl d7_36 rfl ?_
  refine go_icmpYes C (pc' := 132) d7_37 (by decide) (by decide) (by decide) ?_
  refine go_aloadN C (pc' := 133) d7_132 rfl rfl rfl ?_
  refine gF C (pc' := 136) (wd_73 hw) S.2.2.2.2.2.2.2.2.2.2.2.2.1 d7_133 rfl ?_
  refine go_iload C (pc' := 138) d7_136 rfl rfl ?_
  refine go_lload C (pc' := 140) d7_138 rfl rfl ?_
  refine go_laset C (pc' := 141) S.2.2.2.2.2.2.2.2.2.2.2.2.2.2.2.2.2.2.2.2.2.1 (by decide) (i := 0) (by decide) (by simp) (vs' := [(.long (((((0 : Int64) ||| (pt c0 l0 (0 : Int32))) ||| (pt c1 l1 s1)) ||| (pt c2 l2 s2)) ||| (pt c3 l3 s3)))]) rfl d7_140 rfl (by omega) ?_
  intro h1 W1 A1
  refine go_old fun O1 => ?_
  refine go_lloadN C (pc' := 142) d7_141 rfl rfl ?_
  refine go_lload C (pc' := 144) d7_142 rfl rfl ?_
  refine go_aloadN C (pc' := 145) d7_144 rfl rfl rfl ?_
  refine gF C (pc' := 148) (wd_66 hw) (S.2.2.2.2.2.2.2.1.other W1 (Or.inl (ne_i (by omega)))) d7_145 rfl ?_
  refine go_iload C (pc' := 150) d7_148 rfl rfl ?_
  have fx2 := (S.2.2.2.2.2.2.2.2.2.2.2.2.2.2.2.2.2.2.2.2.1.other W1 (ne_i (by omega)))
  refine go_laget C (pc' := 151) fx2 (by decide) (i := 0) (by decide) rfl d7_150 rfl ?_
  refine go_land C (pc' := 152) d7_151 rfl ?_
  refine go_ladd C (pc' := 153) d7_152 rfl ?_
  refine go_ldcLong C (pc' := 156) (wd_89 hw) d7_153 rfl ?_
  refine go_lmul C (pc' := 157) d7_156 rfl ?_
  refine go_lstoreN C (pc' := 158) d7_157 (Ls' := #[(.val (.ref b)), (.val (.ref cf)), (.val (.long (((0 : Int64) + ((((((0 : Int64) ||| (pt c0 l0 (0 : Int32))) ||| (pt c1 l1 s1)) ||| (pt c2 l2 s2)) ||| (pt c3 l3 s3)) &&& KM0)) * (-7046029254386353131 : Int64)))), .second, (.val (.int (0 : Int32))), (.val (.long (((((0 : Int64) ||| (pt c0 l0 (0 : Int32))) ||| (pt c1 l1 s1)) ||| (pt c2 l2 s2)) ||| (pt c3 l3 s3)))), .second, (.val (.int (4 : Int32))), (.val (.int c3))]) rfl rfl ?_
  refine go_ls (Ls' := #[(.val (.ref b)), (.val (.ref cf)), (.val (.long (hst (0 : Int64) (((((0 : Int64) ||| (pt c0 l0 (0 : Int32))) ||| (pt c1 l1 s1)) ||| (pt c2 l2 s2)) ||| (pt c3 l3 s3)) KM0))), .second, (.val (.int (0 : Int32))), (.val (.long (((((0 : Int64) ||| (pt c0 l0 (0 : Int32))) ||| (pt c1 l1 s1)) ||| (pt c2 l2 s2)) ||| (pt c3 l3 s3)))), .second, (.val (.int (4 : Int32))), (.val (.int c3))]) rfl ?_
  refine gI C (pc' := 161) d7_158 rfl (z := (1 : Int32)) (by decide) (Ls' := #[(.val (.ref b)), (.val (.ref cf)), (.val (.long (hst (0 : Int64) (((((0 : Int64) ||| (pt c0 l0 (0 : Int32))) ||| (pt c1 l1 s1)) ||| (pt c2 l2 s2)) ||| (pt c3 l3 s3)) KM0))), .second, (.val (.int (1 : Int32))), (.val (.long (((((0 : Int64) ||| (pt c0 l0 (0 : Int32))) ||| (pt c1 l1 s1)) ||| (pt c2 l2 s2)) ||| (pt c3 l3 s3)))), .second, (.val (.int (4 : Int32))), (.val (.int c3))]) rfl rfl ?_
  refine go_goto C (pc' := 5) d7_161 (by decide) (by decide) ?_
  refine go_iload C (pc' := 7) d7_5 rfl rfl ?_
  refine go_aloadN C (pc' := 8) d7_7 rfl rfl rfl ?_
  refine gF C (pc' := 11) (wd_64 hw) (S.2.2.2.2.1.other W1 (Or.inl (ne_i (by omega)))) d7_8 rfl ?_
  refine go_icmpYes C (pc' := 164) d7_11 (by decide) (by decide) (by decide) ?_
  refine go_lloadN C (pc' := 165) d7_164 rfl rfl ?_
  refine go_lloadN C (pc' := 166) d7_165 rfl rfl ?_
  refine go_bipush C (pc' := 168) d7_166 (z := (33 : Int32)) (by decide) rfl ?_
  refine go_lushr C (pc' := 169) d7_168 rfl ?_
  refine go_lxor C (pc' := 170) d7_169 rfl ?_
  refine go_lstoreN C (pc' := 171) d7_170 (Ls' := #[(.val (.ref b)), (.val (.ref cf)), (.val (.long ((hst (0 : Int64) (((((0 : Int64) ||| (pt c0 l0 (0 : Int32))) ||| (pt c1 l1 s1)) ||| (pt c2 l2 s2)) ||| (pt c3 l3 s3)) KM0) ^^^ (((hst (0 : Int64) (((((0 : Int64) ||| (pt c0 l0 (0 : Int32))) ||| (pt c1 l1 s1)) ||| (pt c2 l2 s2)) ||| (pt c3 l3 s3)) KM0)).toUInt64 >>> ((33 : Int32) &&& 0x3f).toInt64.toUInt64).toInt64))), .second, (.val (.int (1 : Int32))), (.val (.long (((((0 : Int64) ||| (pt c0 l0 (0 : Int32))) ||| (pt c1 l1 s1)) ||| (pt c2 l2 s2)) ||| (pt c3 l3 s3)))), .second, (.val (.int (4 : Int32))), (.val (.int c3))]) rfl rfl ?_
  refine go_ls (Ls' := #[(.val (.ref b)), (.val (.ref cf)), (.val (.long (hx (hst (0 : Int64) (((((0 : Int64) ||| (pt c0 l0 (0 : Int32))) ||| (pt c1 l1 s1)) ||| (pt c2 l2 s2)) ||| (pt c3 l3 s3)) KM0)))), .second, (.val (.int (1 : Int32))), (.val (.long (((((0 : Int64) ||| (pt c0 l0 (0 : Int32))) ||| (pt c1 l1 s1)) ||| (pt c2 l2 s2)) ||| (pt c3 l3 s3)))), .second, (.val (.int (4 : Int32))), (.val (.int c3))]) rfl ?_
  refine go_lloadN C (pc' := 172) d7_171 rfl rfl ?_
  refine go_ldcLong C (pc' := 175) (wd_90 hw) d7_172 rfl ?_
  refine go_lmul C (pc' := 176) d7_175 rfl ?_
  refine go_lstoreN C (pc' := 177) d7_176 (Ls' := #[(.val (.ref b)), (.val (.ref cf)), (.val (.long ((hx (hst (0 : Int64) (((((0 : Int64) ||| (pt c0 l0 (0 : Int32))) ||| (pt c1 l1 s1)) ||| (pt c2 l2 s2)) ||| (pt c3 l3 s3)) KM0)) * (-49064778989728563 : Int64)))), .second, (.val (.int (1 : Int32))), (.val (.long (((((0 : Int64) ||| (pt c0 l0 (0 : Int32))) ||| (pt c1 l1 s1)) ||| (pt c2 l2 s2)) ||| (pt c3 l3 s3)))), .second, (.val (.int (4 : Int32))), (.val (.int c3))]) rfl rfl ?_
  refine go_lloadN C (pc' := 178) d7_177 rfl rfl ?_
  refine go_lloadN C (pc' := 179) d7_178 rfl rfl ?_
  refine go_bipush C (pc' := 181) d7_179 (z := (33 : Int32)) (by decide) rfl ?_
  refine go_lushr C (pc' := 182) d7_181 rfl ?_
  refine go_lxor C (pc' := 183) d7_182 rfl ?_
  refine go_lstoreN C (pc' := 184) d7_183 (Ls' := #[(.val (.ref b)), (.val (.ref cf)), (.val (.long (((hx (hst (0 : Int64) (((((0 : Int64) ||| (pt c0 l0 (0 : Int32))) ||| (pt c1 l1 s1)) ||| (pt c2 l2 s2)) ||| (pt c3 l3 s3)) KM0)) * (-49064778989728563 : Int64)) ^^^ ((((hx (hst (0 : Int64) (((((0 : Int64) ||| (pt c0 l0 (0 : Int32))) ||| (pt c1 l1 s1)) ||| (pt c2 l2 s2)) ||| (pt c3 l3 s3)) KM0)) * (-49064778989728563 : Int64))).toUInt64 >>> ((33 : Int32) &&& 0x3f).toInt64.toUInt64).toInt64))), .second, (.val (.int (1 : Int32))), (.val (.long (((((0 : Int64) ||| (pt c0 l0 (0 : Int32))) ||| (pt c1 l1 s1)) ||| (pt c2 l2 s2)) ||| (pt c3 l3 s3)))), .second, (.val (.int (4 : Int32))), (.val (.int c3))]) rfl rfl ?_
  refine go_ls (Ls' := #[(.val (.ref b)), (.val (.ref cf)), (.val (.long (hx ((hx (hst (0 : Int64) (((((0 : Int64) ||| (pt c0 l0 (0 : Int32))) ||| (pt c1 l1 s1)) ||| (pt c2 l2 s2)) ||| (pt c3 l3 s3)) KM0)) * (-49064778989728563 : Int64))))), .second, (.val (.int (1 : Int32))), (.val (.long (((((0 : Int64) ||| (pt c0 l0 (0 : Int32))) ||| (pt c1 l1 s1)) ||| (pt c2 l2 s2)) ||| (pt c3 l3 s3)))), .second, (.val (.int (4 : Int32))), (.val (.int c3))]) rfl ?_
  refine go_lloadN C (pc' := 185) d7_184 rfl rfl ?_
  refine go_l2i C (pc' := 186) d7_185 rfl ?_
  exact go_retI C d7_186 (by decide) (by decide) ⟨rfl, ⟨(S.1.wr W1), (S.2.1.other W1 (Or.inl (ne_i (by omega)))), (S.2.2.1.other W1 (Or.inl (ne_i (by omega)))), (S.2.2.2.1.other W1 (Or.inl (ne_i (by omega)))), (S.2.2.2.2.1.other W1 (Or.inl (ne_i (by omega)))), (S.2.2.2.2.2.1.other W1 (Or.inl (ne_i (by omega)))), (S.2.2.2.2.2.2.1.other W1 (Or.inl (ne_i (by omega)))), (S.2.2.2.2.2.2.2.1.other W1 (Or.inl (ne_i (by omega)))), (S.2.2.2.2.2.2.2.2.1.other W1 (Or.inl (ne_i (by omega)))), (S.2.2.2.2.2.2.2.2.2.1.other W1 (Or.inl (ne_i (by omega)))), (S.2.2.2.2.2.2.2.2.2.2.1.other W1 (Or.inl (ne_i (by omega)))), (S.2.2.2.2.2.2.2.2.2.2.2.1.other W1 (Or.inl (ne_i (by omega)))), (S.2.2.2.2.2.2.2.2.2.2.2.2.1.other W1 (Or.inl (ne_i (by omega)))), (S.2.2.2.2.2.2.2.2.2.2.2.2.2.1.other W1 (ne_i (by omega))), (S.2.2.2.2.2.2.2.2.2.2.2.2.2.2.1.other W1 (ne_i (by omega))), (S.2.2.2.2.2.2.2.2.2.2.2.2.2.2.2.1.other W1 (ne_i (by omega))), (S.2.2.2.2.2.2.2.2.2.2.2.2.2.2.2.2.1.other W1 (ne_i (by omega))), (S.2.2.2.2.2.2.2.2.2.2.2.2.2.2.2.2.2.1.other W1 (ne_i (by omega))), (S.2.2.2.2.2.2.2.2.2.2.2.2.2.2.2.2.2.2.1.other W1 (ne_i (by omega))), (S.2.2.2.2.2.2.2.2.2.2.2.2.2.2.2.2.2.2.2.1.other W1 (ne_i (by omega))), fx2, A1, S.2.2.2.2.2.2.2.2.2.2.2.2.2.2.2.2.2.2.2.2.2.2⟩, ((Keep.refl _ [pk]).wr W1 (Or.inl (by simp)))⟩
set_option maxRecDepth 65536 in
set_option maxHeartbeats 4000000 in
theorem holds1_met (l : Launch) (Z : State) (a0 : Array Value) (hw : ∀ d ∈ tables_1, d.before a0 Z = true) (n0 : Nat) (h : Heap) (O : Old Z n0 h)  {b pgs tb lo hi sh mk fi km pk : Nat} {kpgs ktb klo khi ksh kmk kfi kkm kpk : ClassId} {l0 u0 l1 u1 l2 u2 l3 u3 s1 s2 s3 : Int32} {m0 m1 m2 m3 KM0 : Int64} {pg : Nat} {kpg : ClassId} {sz : Int32} {vt vr : List Value} {p0 e0 en : Int64} (hs : Int32) (S : Sto Z h b pgs tb lo hi sh mk fi km pk kpgs ktb klo khi ksh kmk kfi kkm kpk (1 : Int32) (20 : Int32) sz [(.ref pg)] vt [(.int l0), (.int l1), (.int l2), (.int l3)] [(.int u0), (.int u1), (.int u2), (.int u3)] [(.int (0 : Int32)), (.int s1), (.int s2), (.int s3)] [(.long m0), (.long m1), (.long m2), (.long m3)] [(.int (0 : Int32)), (.int (4 : Int32))] [(.long KM0)] [(.long p0)]) (Apg : Ar Z h pg .long kpg (.long e0 :: vr)) (hn : (en.toInt32 - (1 : Int32)) = 0) :
    Met l Z n0 (⟨"com/example/invariant/invariant/check/ConfigurationStore", "holdsPacked", "(JI)Z"⟩ : MethodName) prog_52_method_16_code 8 (some .boolean) [] ({ frames := 0, cells := 0, slots := 0, locals := 0 } : Room) #[(.ref b), (.long en), (.int hs)] h (fun v h' => ∃ r : Int32, v = some (.int r) ∧ h = h' ∧ (r = 1 ∧ (hi32 en = hs ∧ e0 = p0) ∨ r = 0 ∧ ¬ (hi32 en = hs ∧ e0 = p0))) := by
  refine met_of (Ls := #[(.val (.ref b)), (.val (.long en)), .second, (.val (.int hs)), .unset, .unset, .unset, .unset]) (by decide +kernel) (fun m => by first | (simp [entryFrame, mkF, argsToLocals, Value.category]; done) | rfl) O ?_
  intro p e s m below meth cd C
  refine go_lloadN C (pc' := 1) d8_0 rfl rfl ?_
  refine go_bipush C (pc' := 3) d8_1 (z := (32 : Int32)) (by decide) rfl ?_
  refine go_lushr C (pc' := 4) d8_3 rfl ?_
  refine go_l2i C (pc' := 5) d8_4 rfl ?_
  refine go_iloadN C (pc' := 6) d8_5 rfl rfl ?_
  by_cases hc1 : (((en).toUInt64 >>> ((32 : Int32) &&& 0x3f).toInt64.toUInt64).toInt64).toInt32 = hs
  · refine go_icmpYes C (pc' := 11) d8_6 (teq hc1).1 (by decide) (by decide) ?_
    refine go_lloadN C (pc' := 12) d8_11 rfl rfl ?_
    refine go_l2i C (pc' := 13) d8_12 rfl ?_
    refine go_iconst C (pc' := 14) d8_13 (z := (1 : Int32)) (by decide) rfl ?_
    refine go_isub C (pc' := 15) d8_14 rfl ?_
    refine go_st (st' := [(.int (0 : Int32))]) (by rw [hn]) ?_
    refine go_istore C (pc' := 17) d8_15 (Ls' := #[(.val (.ref b)), (.val (.long en)), .second, (.val (.int hs)), (.val (.int (0 : Int32))), .unset, .unset, .unset]) rfl rfl ?_
    refine go_aloadN C (pc' := 18) d8_17 rfl rfl rfl ?_
    refine gF C (pc' := 21) (wd_22 hw) S.2.2.2.2.2.2.2.2.2.1 d8_18 rfl ?_
    refine go_iload C (pc' := 23) d8_21 rfl rfl ?_
    refine go_aloadN C (pc' := 24) d8_23 rfl rfl rfl ?_
    refine gF C (pc' := 27) (wd_71 hw) S.2.2.2.2.2.2.2.2.1 d8_24 rfl ?_
    refine go_iushr C (pc' := 28) d8_27 rfl ?_
    refine go_st (st' := [(.int (0 : Int32)), (.ref pgs)]) (by rw [show (((0 : Int32)).toUInt32 >>> ((20 : Int32) &&& 31).toUInt32).toInt32 = (0 : Int32) from by decide]) ?_
    refine go_raget C (pc' := 29) S.2.2.2.2.2.2.2.2.2.2.2.2.2.1 rfl (by decide) (i := 0) (by decide) rfl d8_28 rfl ?_
    refine go_astore C (pc' := 31) d8_29 rfl (Ls' := #[(.val (.ref b)), (.val (.long en)), .second, (.val (.int hs)), (.val (.int (0 : Int32))), (.val (.ref pg)), .unset, .unset]) rfl rfl ?_
    refine go_iload C (pc' := 33) d8_31 rfl rfl ?_
    refine go_iconst C (pc' := 34) d8_33 (z := (1 : Int32)) (by decide) rfl ?_
    refine go_aloadN C (pc' := 35) d8_34 rfl rfl rfl ?_
    refine gF C (pc' := 38) (wd_71 hw) S.2.2.2.2.2.2.2.2.1 d8_35 rfl ?_
    refine go_ishl C (pc' := 39) d8_38 rfl ?_
    refine go_st (st' := [(.int (1048576 : Int32)), (.int (0 : Int32))]) (by rw [show ((1 : Int32) <<< ((20 : Int32) &&& 31)) = (1048576 : Int32) from by decide]) ?_
    refine go_iconst C (pc' := 40) d8_39 (z := (1 : Int32)) (by decide) rfl ?_
    refine go_isub C (pc' := 41) d8_40 rfl ?_
    refine go_st (st' := [(.int (1048575 : Int32)), (.int (0 : Int32))]) (by rw [show ((1048576 : Int32) - (1 : Int32)) = (1048575 : Int32) from by decide]) ?_
    refine go_iand C (pc' := 42) d8_41 rfl ?_
    refine go_st (st' := [(.int (0 : Int32))]) (by rw [show ((0 : Int32) &&& (1048575 : Int32)) = (0 : Int32) from by decide]) ?_
    refine go_aloadN C (pc' := 43) d8_42 rfl rfl rfl ?_
    refine gF C (pc' := 46) (wd_64 hw) S.2.2.2.2.1 d8_43 rfl ?_
    refine go_imul C (pc' := 47) d8_46 rfl ?_
    refine go_st (st' := [(.int (0 : Int32))]) (by rw [show ((0 : Int32) * (1 : Int32)) = (0 : Int32) from by decide]) ?_
    refine go_istore C (pc' := 49) d8_47 (Ls' := #[(.val (.ref b)), (.val (.long en)), .second, (.val (.int hs)), (.val (.int (0 : Int32))), (.val (.ref pg)), (.val (.int (0 : Int32))), .unset]) rfl rfl ?_
    refine go_iconst C (pc' := 50) d8_49 (z := (0 : Int32)) (by decide) rfl ?_
    refine go_istore C (pc' := 52) d8_50 (Ls' := #[(.val (.ref b)), (.val (.long en)), .second, (.val (.int hs)), (.val (.int (0 : Int32))), (.val (.ref pg)), (.val (.int (0 : Int32))), (.val (.int (0 : Int32)))]) rfl rfl ?_
    refine go_iload C (pc' := 54) d8_52 rfl rfl ?_
    refine go_aloadN C (pc' := 55) d8_54 rfl rfl rfl ?_
    refine gF C (pc' := 58) (wd_64 hw) S.2.2.2.2.1 d8_55 rfl ?_
    refine go_icmpNo C (pc' := 61) d8_58 (by decide) rfl ?_
    refine go_aload C (pc' := 63) d8_61 rfl rfl rfl ?_
    refine go_iload C (pc' := 65) d8_63 rfl rfl ?_
    refine go_iload C (pc' := 67) d8_65 rfl rfl ?_
    refine go_iadd C (pc' := 68) d8_67 rfl ?_
    refine go_st (st' := [(.int (0 : Int32)), (.ref pg)]) (by rw [show ((0 : Int32) + (0 : Int32)) = (0 : Int32) from by decide]) ?_
    refine go_laget C (pc' := 69) Apg (by decide) (i := 0) (by decide) rfl d8_68 rfl ?_
    refine go_aloadN C (pc' := 70) d8_69 rfl rfl rfl ?_
    refine gF C (pc' := 73) (wd_73 hw) S.2.2.2.2.2.2.2.2.2.2.2.2.1 d8_70 rfl ?_
    refine go_iload C (pc' := 75) d8_73 rfl rfl ?_
    refine go_laget C (pc' := 76) S.2.2.2.2.2.2.2.2.2.2.2.2.2.2.2.2.2.2.2.2.2.1 (by decide) (i := 0) (by decide) rfl d8_75 rfl ?_
    refine go_lcmp C (pc' := 77) d8_76 rfl ?_
    by_cases hc2 : (lcmpW e0 p0) = 0
    · refine go_ifYes C (pc' := 82) d8_77 ((if0 _ _).trans (teq hc2).1) (by decide) (by decide) ?_
      refine gI C (pc' := 85) d8_82 rfl (z := (1 : Int32)) (by decide) (Ls' := #[(.val (.ref b)), (.val (.long en)), .second, (.val (.int hs)), (.val (.int (0 : Int32))), (.val (.ref pg)), (.val (.int (0 : Int32))), (.val (.int (1 : Int32)))]) rfl rfl ?_
      refine go_goto C (pc' := 52) d8_85 (by decide) (by decide) ?_
      refine go_iload C (pc' := 54) d8_52 rfl rfl ?_
      refine go_aloadN C (pc' := 55) d8_54 rfl rfl rfl ?_
      refine gF C (pc' := 58) (wd_64 hw) S.2.2.2.2.1 d8_55 rfl ?_
      refine go_icmpYes C (pc' := 88) d8_58 (by decide) (by decide) (by decide) ?_
      refine go_iconst C (pc' := 89) d8_88 (z := (1 : Int32)) (by decide) rfl ?_
      exact go_retN C (by simp) (z' := (1 : Int32)) (by decide) d8_89 (by decide) (by decide) ⟨_, rfl, rfl, Or.inl ⟨rfl, hc1, (lw_eq _ _).mp hc2⟩⟩
    · refine go_ifNo C (pc' := 80) d8_77 ((if0 _ _).trans (feq hc2).1) rfl ?_
      refine go_iconst C (pc' := 81) d8_80 (z := (0 : Int32)) (by decide) rfl ?_
      exact go_retN C (by simp) (z' := (0 : Int32)) (by decide) d8_81 (by decide) (by decide) ⟨_, rfl, rfl, Or.inr ⟨rfl, fun z => hc2 ((lw_eq _ _).mpr z.2)⟩⟩
  · refine go_icmpNo C (pc' := 9) d8_6 (feq hc1).1 rfl ?_
    refine go_iconst C (pc' := 10) d8_9 (z := (0 : Int32)) (by decide) rfl ?_
    exact go_retN C (by simp) (z' := (0 : Int32)) (by decide) d8_10 (by decide) (by decide) ⟨_, rfl, rfl, Or.inr ⟨rfl, fun z => hc1 z.1⟩⟩
set_option maxRecDepth 65536 in
set_option maxHeartbeats 4000000 in
theorem holder1_met (l : Launch) (Z : State) (a0 : Array Value) (hw : ∀ d ∈ tables_1, d.before a0 Z = true) (n0 : Nat) (h : Heap) (O : Old Z n0 h)  {b pgs tb lo hi sh mk fi km pk : Nat} {kpgs ktb klo khi ksh kmk kfi kkm kpk : ClassId} {l0 u0 l1 u1 l2 u2 l3 u3 s1 s2 s3 : Int32} {m0 m1 m2 m3 KM0 : Int64} {sz : Int32} {vp vt : List Value} {p0 : Int64} (hs : Int32) (hlen : vt.length = 128) (S : Sto Z h b pgs tb lo hi sh mk fi km pk kpgs ktb klo khi ksh kmk kfi kkm kpk (1 : Int32) (20 : Int32) sz vp vt [(.int l0), (.int l1), (.int l2), (.int l3)] [(.int u0), (.int u1), (.int u2), (.int u3)] [(.int (0 : Int32)), (.int s1), (.int s2), (.int s3)] [(.long m0), (.long m1), (.long m2), (.long m3)] [(.int (0 : Int32)), (.int (4 : Int32))] [(.long KM0)] [(.long p0)]) :
    Met l Z n0 (⟨"com/example/invariant/invariant/check/ConfigurationStore", "holder", "(ILjava/util/function/IntPredicate;)I"⟩ : MethodName) prog_52_method_10_code 8 (some .int) [] ({ frames := 0, cells := 0, slots := 0, locals := 0 } : Room) #[(.ref b), (.int hs), .null] h (fun v h' => v = some (.int (-1 : Int32)) ∧ h = h') := by
  refine met_of (Ls := #[(.val (.ref b)), (.val (.int hs)), (.val .null), .unset, .unset, .unset, .unset, .unset]) (by decide +kernel) (fun m => by first | (simp [entryFrame, mkF, argsToLocals, Value.category]; done) | rfl) O ?_
  intro p e s m below meth cd C
  refine go_aloadN C (pc' := 1) d9_0 rfl rfl rfl ?_
  refine gF C (pc' := 4) (wd_25 hw) S.2.2.2.2.2.2.2.2.2.2.2.1 d9_1 rfl ?_
  refine go_alen C (pc' := 5) S.2.2.2.2.2.2.2.2.2.2.2.2.2.2.1 (z := (128 : Int32)) (by rw [hlen]; rfl) d9_4 rfl ?_
  refine go_iconst C (pc' := 6) d9_5 (z := (1 : Int32)) (by decide) rfl ?_
  refine go_isub C (pc' := 7) d9_6 rfl ?_
  refine go_st (st' := [(.int (127 : Int32))]) (by rw [show ((128 : Int32) - (1 : Int32)) = (127 : Int32) from by decide]) ?_
  refine go_istoreN C (pc' := 8) d9_7 (Ls' := #[(.val (.ref b)), (.val (.int hs)), (.val .null), (.val (.int (127 : Int32))), .unset, .unset, .unset, .unset]) rfl rfl ?_
  refine go_iloadN C (pc' := 9) d9_8 rfl rfl ?_
  refine go_iloadN C (pc' := 10) d9_9 rfl rfl ?_
  refine go_iand C (pc' := 11) d9_10 rfl ?_
  refine go_istore C (pc' := 13) d9_11 (Ls' := #[(.val (.ref b)), (.val (.int hs)), (.val .null), (.val (.int (127 : Int32))), (.val (.int (hs &&& (127 : Int32)))), .unset, .unset, .unset]) rfl rfl ?_
  refine go_aloadN C (pc' := 14) d9_13 rfl rfl rfl ?_
  refine go_ifnullYes C (pc' := 89) d9_14 (by decide) (by decide) ?_
  refine go_iconst C (pc' := 90) d9_89 (z := (-1 : Int32)) (by decide) rfl ?_
  exact go_retI C d9_90 (by decide) (by decide) ⟨rfl, rfl⟩
set_option maxRecDepth 65536 in
set_option maxHeartbeats 4000000 in
theorem slotA1_met (l : Launch) (Z : State) (a0 : Array Value) (hw : ∀ d ∈ tables_1, d.before a0 Z = true) (n0 : Nat) (h : Heap) (O : Old Z n0 h)  {b pgs tb lo hi sh mk fi km pk : Nat} {kpgs ktb klo khi ksh kmk kfi kkm kpk : ClassId} {l0 u0 l1 u1 l2 u2 l3 u3 s1 s2 s3 : Int32} {m0 m1 m2 m3 KM0 : Int64} {sz : Int32} {vp vt : List Value} {p0 : Int64} (hs : Int32) (hlen : vt.length = 128) (S : Sto Z h b pgs tb lo hi sh mk fi km pk kpgs ktb klo khi ksh kmk kfi kkm kpk (1 : Int32) (20 : Int32) sz vp vt [(.int l0), (.int l1), (.int l2), (.int l3)] [(.int u0), (.int u1), (.int u2), (.int u3)] [(.int (0 : Int32)), (.int s1), (.int s2), (.int s3)] [(.long m0), (.long m1), (.long m2), (.long m3)] [(.int (0 : Int32)), (.int (4 : Int32))] [(.long KM0)] [(.long p0)]) (hv : vt[(hs &&& (127 : Int32)).toNatClampNeg]? = some (.long 0)) :
    Met l Z n0 (⟨"com/example/invariant/invariant/check/ConfigurationStore", "slot", "(I)I"⟩ : MethodName) prog_52_method_15_code 4 (some .int) [] ({ frames := 0, cells := 0, slots := 0, locals := 0 } : Room) #[(.ref b), (.int hs)] h (fun v h' => v = some (.int (hs &&& (127 : Int32))) ∧ h = h') := by
  refine met_of (Ls := #[(.val (.ref b)), (.val (.int hs)), .unset, .unset]) (by decide +kernel) (fun m => by first | (simp [entryFrame, mkF, argsToLocals, Value.category]; done) | rfl) O ?_
  intro p e s m below meth cd C
  refine go_aloadN C (pc' := 1) d10_0 rfl rfl rfl ?_
  refine gF C (pc' := 4) (wd_25 hw) S.2.2.2.2.2.2.2.2.2.2.2.1 d10_1 rfl ?_
  refine go_alen C (pc' := 5) S.2.2.2.2.2.2.2.2.2.2.2.2.2.2.1 (z := (128 : Int32)) (by rw [hlen]; rfl) d10_4 rfl ?_
  refine go_iconst C (pc' := 6) d10_5 (z := (1 : Int32)) (by decide) rfl ?_
  refine go_isub C (pc' := 7) d10_6 rfl ?_
  refine go_st (st' := [(.int (127 : Int32))]) (by rw [show ((128 : Int32) - (1 : Int32)) = (127 : Int32) from by decide]) ?_
  refine go_istoreN C (pc' := 8) d10_7 (Ls' := #[(.val (.ref b)), (.val (.int hs)), (.val (.int (127 : Int32))), .unset]) rfl rfl ?_
  refine go_iloadN C (pc' := 9) d10_8 rfl rfl ?_
  refine go_iloadN C (pc' := 10) d10_9 rfl rfl ?_
  refine go_iand C (pc' := 11) d10_10 rfl ?_
  refine go_istoreN C (pc' := 12) d10_11 (Ls' := #[(.val (.ref b)), (.val (.int hs)), (.val (.int (127 : Int32))), (.val (.int (hs &&& (127 : Int32))))]) rfl rfl ?_
  refine go_aloadN C (pc' := 13) d10_12 rfl rfl rfl ?_
  refine gF C (pc' := 16) (wd_25 hw) S.2.2.2.2.2.2.2.2.2.2.2.1 d10_13 rfl ?_
  refine go_iloadN C (pc' := 17) d10_16 rfl rfl ?_
  refine go_laget C (pc' := 18) S.2.2.2.2.2.2.2.2.2.2.2.2.2.2.1 (and127 _).1 (i := _) rfl hv d10_17 rfl ?_
  refine go_lconst C (pc' := 19) d10_18 (z := (0 : Int64)) (by decide) rfl ?_
  refine go_lcmp C (pc' := 20) d10_19 rfl ?_
  refine go_st (st' := [(.int (0 : Int32))]) (by rw [show (lcmpW (0 : Int64) (0 : Int64)) = (0 : Int32) from by decide]) ?_
  refine go_ifYes C (pc' := 46) d10_20 (by decide) (by decide) (by decide) ?_
  refine go_iloadN C (pc' := 47) d10_46 rfl rfl ?_
  exact go_retI C d10_47 (by decide) (by decide) ⟨rfl, rfl⟩
set_option maxRecDepth 65536 in
set_option maxHeartbeats 4000000 in
theorem slotB1_met (l : Launch) (Z : State) (a0 : Array Value) (hw : ∀ d ∈ tables_1, d.before a0 Z = true) (n0 : Nat) (h : Heap) (O : Old Z n0 h)  {b pgs tb lo hi sh mk fi km pk : Nat} {kpgs ktb klo khi ksh kmk kfi kkm kpk : ClassId} {l0 u0 l1 u1 l2 u2 l3 u3 s1 s2 s3 : Int32} {m0 m1 m2 m3 KM0 : Int64} {pg : Nat} {kpg : ClassId} {sz : Int32} {vt vr : List Value} {p0 e0 en : Int64} (hs : Int32) (hlen : vt.length = 128) (S : Sto Z h b pgs tb lo hi sh mk fi km pk kpgs ktb klo khi ksh kmk kfi kkm kpk (1 : Int32) (20 : Int32) sz [(.ref pg)] vt [(.int l0), (.int l1), (.int l2), (.int l3)] [(.int u0), (.int u1), (.int u2), (.int u3)] [(.int (0 : Int32)), (.int s1), (.int s2), (.int s3)] [(.long m0), (.long m1), (.long m2), (.long m3)] [(.int (0 : Int32)), (.int (4 : Int32))] [(.long KM0)] [(.long p0)]) (Apg : Ar Z h pg .long kpg (.long e0 :: vr)) (hn : (en.toInt32 - (1 : Int32)) = 0) (h0 : ¬ en = 0) (hv : vt[(hs &&& (127 : Int32)).toNatClampNeg]? = some (.long en)) (hv2 : vt[(((hs &&& (127 : Int32)) + (1 : Int32)) &&& (127 : Int32)).toNatClampNeg]? = some (.long 0)) :
    Met l Z n0 (⟨"com/example/invariant/invariant/check/ConfigurationStore", "slot", "(I)I"⟩ : MethodName) prog_52_method_15_code 4 (some .int) [] ({ frames := 1, cells := 0, slots := 0, locals := 19 } : Room) #[(.ref b), (.int hs)] h (fun v h' => ∃ r : Int32, v = some (.int r) ∧ (r = (hs &&& (127 : Int32)) ∧ (hi32 en = hs ∧ e0 = p0) ∨ r = (((hs &&& (127 : Int32)) + (1 : Int32)) &&& (127 : Int32)) ∧ ¬ (hi32 en = hs ∧ e0 = p0)) ∧ h = h') := by
  refine met_of (Ls := #[(.val (.ref b)), (.val (.int hs)), .unset, .unset]) (by decide +kernel) (fun m => by first | (simp [entryFrame, mkF, argsToLocals, Value.category]; done) | rfl) O ?_
  intro p e s m below meth cd C
  refine go_aloadN C (pc' := 1) d10_0 rfl rfl rfl ?_
  refine gF C (pc' := 4) (wd_25 hw) S.2.2.2.2.2.2.2.2.2.2.2.1 d10_1 rfl ?_
  refine go_alen C (pc' := 5) S.2.2.2.2.2.2.2.2.2.2.2.2.2.2.1 (z := (128 : Int32)) (by rw [hlen]; rfl) d10_4 rfl ?_
  refine go_iconst C (pc' := 6) d10_5 (z := (1 : Int32)) (by decide) rfl ?_
  refine go_isub C (pc' := 7) d10_6 rfl ?_
  refine go_st (st' := [(.int (127 : Int32))]) (by rw [show ((128 : Int32) - (1 : Int32)) = (127 : Int32) from by decide]) ?_
  refine go_istoreN C (pc' := 8) d10_7 (Ls' := #[(.val (.ref b)), (.val (.int hs)), (.val (.int (127 : Int32))), .unset]) rfl rfl ?_
  refine go_iloadN C (pc' := 9) d10_8 rfl rfl ?_
  refine go_iloadN C (pc' := 10) d10_9 rfl rfl ?_
  refine go_iand C (pc' := 11) d10_10 rfl ?_
  refine go_istoreN C (pc' := 12) d10_11 (Ls' := #[(.val (.ref b)), (.val (.int hs)), (.val (.int (127 : Int32))), (.val (.int (hs &&& (127 : Int32))))]) rfl rfl ?_
  refine go_aloadN C (pc' := 13) d10_12 rfl rfl rfl ?_
  refine gF C (pc' := 16) (wd_25 hw) S.2.2.2.2.2.2.2.2.2.2.2.1 d10_13 rfl ?_
  refine go_iloadN C (pc' := 17) d10_16 rfl rfl ?_
  refine go_laget C (pc' := 18) S.2.2.2.2.2.2.2.2.2.2.2.2.2.2.1 (and127 _).1 (i := _) rfl hv d10_17 rfl ?_
  refine go_lconst C (pc' := 19) d10_18 (z := (0 : Int64)) (by decide) rfl ?_
  refine go_lcmp C (pc' := 20) d10_19 rfl ?_
  refine go_ifNo C (pc' := 23) d10_20 ((if0 _ _).trans (feq (fun z => h0 ((lw_eq _ _).mp z))).1) rfl ?_
  refine go_aloadN C (pc' := 24) d10_23 rfl rfl rfl ?_
  refine go_aloadN C (pc' := 25) d10_24 rfl rfl rfl ?_
  refine gF C (pc' := 28) (wd_25 hw) S.2.2.2.2.2.2.2.2.2.2.2.1 d10_25 rfl ?_
  refine go_iloadN C (pc' := 29) d10_28 rfl rfl ?_
  refine go_laget C (pc' := 30) S.2.2.2.2.2.2.2.2.2.2.2.2.2.2.1 (and127 _).1 (i := _) rfl hv d10_29 rfl ?_
  refine go_iloadN C (pc' := 31) d10_30 rfl rfl ?_
  refine go_callP C (pc' := 34) (y' := (⟨"com/example/invariant/invariant/check/ConfigurationStore", "holdsPacked", "(JI)Z"⟩ : MethodName)) (wd_115 hw) (wd_116 hw) (wd_117 hw) (wd_12 hw) (holds1_met l Z a0 hw _ _ O hs S Apg hn) (wd_118 hw) (wd_13 hw) (by decide) (by decide) (W := 0) (Nat.le_of_ble_eq_true rfl) (by decide) (by decide) (by decide) rfl S.1 (argsL := [(.long en), (.int hs)]) (rest := []) pd_4 rfl rfl rfl d10_31 rfl ?_
  rintro _ _ ⟨r, rfl, rfl, hr⟩
  refine go_st (st' := [(.int r)]) rfl ?_
  rcases hr with ⟨rfl, hr⟩ | ⟨rfl, hr⟩
  · refine go_ifYes C (pc' := 46) d10_34 (by decide) (by decide) (by decide) ?_
    refine go_iloadN C (pc' := 47) d10_46 rfl rfl ?_
    exact go_retI C d10_47 (by decide) (by decide) ⟨_, rfl, Or.inl ⟨rfl, hr⟩, rfl⟩
  · refine go_ifNo C (pc' := 37) d10_34 (by decide) rfl ?_
    refine go_iloadN C (pc' := 38) d10_37 rfl rfl ?_
    refine go_iconst C (pc' := 39) d10_38 (z := (1 : Int32)) (by decide) rfl ?_
    refine go_iadd C (pc' := 40) d10_39 rfl ?_
    refine go_iloadN C (pc' := 41) d10_40 rfl rfl ?_
    refine go_iand C (pc' := 42) d10_41 rfl ?_
    refine go_istoreN C (pc' := 43) d10_42 (Ls' := #[(.val (.ref b)), (.val (.int hs)), (.val (.int (127 : Int32))), (.val (.int (((hs &&& (127 : Int32)) + (1 : Int32)) &&& (127 : Int32))))]) rfl rfl ?_
    refine go_goto C (pc' := 12) d10_43 (by decide) (by decide) ?_
    refine go_aloadN C (pc' := 13) d10_12 rfl rfl rfl ?_
    refine gF C (pc' := 16) (wd_25 hw) S.2.2.2.2.2.2.2.2.2.2.2.1 d10_13 rfl ?_
    refine go_iloadN C (pc' := 17) d10_16 rfl rfl ?_
    refine go_laget C (pc' := 18) S.2.2.2.2.2.2.2.2.2.2.2.2.2.2.1 (and127 _).1 (i := _) rfl hv2 d10_17 rfl ?_
    refine go_lconst C (pc' := 19) d10_18 (z := (0 : Int64)) (by decide) rfl ?_
    refine go_lcmp C (pc' := 20) d10_19 rfl ?_
    refine go_st (st' := [(.int (0 : Int32))]) (by rw [show (lcmpW (0 : Int64) (0 : Int64)) = (0 : Int32) from by decide]) ?_
    refine go_ifYes C (pc' := 46) d10_20 (by decide) (by decide) (by decide) ?_
    refine go_iloadN C (pc' := 47) d10_46 rfl rfl ?_
    exact go_retI C d10_47 (by decide) (by decide) ⟨_, rfl, Or.inr ⟨rfl, hr⟩, rfl⟩
set_option maxRecDepth 65536 in
set_option maxHeartbeats 4000000 in
theorem makeRoom1_met (l : Launch) (Z : State) (a0 : Array Value) (hw : ∀ d ∈ tables_1, d.before a0 Z = true) (n0 : Nat) (h : Heap) (O : Old Z n0 h)  {b pgs tb lo hi sh mk fi km pk : Nat} {kpgs ktb klo khi ksh kmk kfi kkm kpk : ClassId} {l0 u0 l1 u1 l2 u2 l3 u3 s1 s2 s3 : Int32} {m0 m1 m2 m3 KM0 : Int64} {sz : Int32} {vt : List Value} {p0 : Int64} (S : Sto Z h b pgs tb lo hi sh mk fi km pk kpgs ktb klo khi ksh kmk kfi kkm kpk (1 : Int32) (20 : Int32) sz [.null] vt [(.int l0), (.int l1), (.int l2), (.int l3)] [(.int u0), (.int u1), (.int u2), (.int u3)] [(.int (0 : Int32)), (.int s1), (.int s2), (.int s3)] [(.long m0), (.long m1), (.long m2), (.long m3)] [(.int (0 : Int32)), (.int (4 : Int32))] [(.long KM0)] [(.long p0)]) (o : Ord n0 b pgs tb lo hi sh mk fi km pk) :
    Met l Z n0 (⟨"com/example/invariant/invariant/check/ConfigurationStore", "makeRoom", "(II)V"⟩ : MethodName) prog_52_method_13_code 7 none [] ({ frames := 1, cells := 1, slots := 64, locals := 14 } : Room) #[(.ref b), (.int (0 : Int32)), (.int (0 : Int32))] h (fun v h' => v = none ∧ ∃ (pg : Nat) (kpg : ClassId), pk < pg ∧ h.size ≤ pg ∧ Sto Z h' b pgs tb lo hi sh mk fi km pk kpgs ktb klo khi ksh kmk kfi kkm kpk (1 : Int32) (20 : Int32) sz [(.ref pg)] vt [(.int l0), (.int l1), (.int l2), (.int l3)] [(.int u0), (.int u1), (.int u2), (.int u3)] [(.int (0 : Int32)), (.int s1), (.int s2), (.int s3)] [(.long m0), (.long m1), (.long m2), (.long m3)] [(.int (0 : Int32)), (.int (4 : Int32))] [(.long KM0)] [(.long p0)] ∧ Ar Z h' pg .long kpg (List.replicate 64 (.long (0 : Int64))) ∧ Keep h h' [pgs]) := by
  refine met_of (Ls := #[(.val (.ref b)), (.val (.int (0 : Int32))), (.val (.int (0 : Int32))), .unset, .unset, .unset, .unset]) (by decide +kernel) (fun m => by first | (simp [entryFrame, mkF, argsToLocals, Value.category]; done) | rfl) O ?_
  intro p e s m below meth cd C
  obtain ⟨o0, o1, o2, o3, o4, o5, o6, o7, o8, o9⟩ := o
  refine go_aloadN C (pc' := 1) d11_0 rfl rfl rfl ?_
  refine gF C (pc' := 4) (wd_64 hw) S.2.2.2.2.1 d11_1 rfl ?_
  refine go_aloadN C (pc' := 5) d11_4 rfl rfl rfl ?_
  refine gF C (pc' := 8) (wd_71 hw) S.2.2.2.2.2.2.2.2.1 d11_5 rfl ?_
  refine go_ishl C (pc' := 9) d11_8 rfl ?_
  refine go_st (st' := [(.int (1048576 : Int32))]) (by rw [show ((1 : Int32) <<< ((20 : Int32) &&& 31)) = (1048576 : Int32) from by decide]) ?_
  refine go_istoreN C (pc' := 10) d11_9 (Ls' := #[(.val (.ref b)), (.val (.int (0 : Int32))), (.val (.int (0 : Int32))), (.val (.int (1048576 : Int32))), .unset, .unset, .unset]) rfl rfl ?_
  refine go_iloadN C (pc' := 11) d11_10 rfl rfl ?_
  refine go_ifNo C (pc' := 14) d11_11 (by decide) rfl ?_
  refine go_iloadN C (pc' := 15) d11_14 rfl rfl ?_
  refine go_bipush C (pc' := 17) d11_15 (z := (64 : Int32)) (by decide) rfl ?_
  refine go_aloadN C (pc' := 18) d11_17 rfl rfl rfl ?_
  refine gF C (pc' := 21) (wd_64 hw) S.2.2.2.2.1 d11_18 rfl ?_
  refine go_imul C (pc' := 22) d11_21 rfl ?_
  refine go_st (st' := [(.int (64 : Int32)), (.int (1048576 : Int32))]) (by rw [show ((64 : Int32) * (1 : Int32)) = (64 : Int32) from by decide]) ?_
  refine go_iconst C (pc' := 23) d11_22 (z := (2 : Int32)) (by decide) rfl ?_
  refine go_iloadN C (pc' := 24) d11_23 rfl rfl ?_
  refine go_imul C (pc' := 25) d11_24 rfl ?_
  refine go_st (st' := [(.int (0 : Int32)), (.int (64 : Int32)), (.int (1048576 : Int32))]) (by rw [show ((2 : Int32) * (0 : Int32)) = (0 : Int32) from by decide]) ?_
  refine go_callS C (pc' := 28) (y' := (⟨"java/lang/Math", "max", "(II)I"⟩ : MethodName)) (wd_69 hw) (wd_5 hw) (max_met l Z a0 hw _ _ O (64 : Int32) (0 : Int32) (64 : Int32) (by decide)) (wd_6 hw) (wd_2 hw) (by decide) (by decide) (W := 1) (Nat.le_of_ble_eq_true rfl) (by decide) (by decide) (by decide) rfl (argsL := [(.int (64 : Int32)), (.int (0 : Int32))]) (rest := [(.int (1048576 : Int32))]) pd_1 rfl rfl rfl d11_25 rfl ?_
  rintro _ _ ⟨rfl, rfl⟩
  refine go_st (st' := [(.int (64 : Int32)), (.int (1048576 : Int32))]) rfl ?_
  refine go_callS C (pc' := 31) (y' := (⟨"java/lang/Math", "min", "(II)I"⟩ : MethodName)) (wd_111 hw) (wd_1 hw) (min_met l Z a0 hw _ _ O (1048576 : Int32) (64 : Int32) (64 : Int32) (by decide)) (wd_3 hw) (wd_2 hw) (by decide) (by decide) (W := 0) (Nat.le_of_ble_eq_true rfl) (by decide) (by decide) (by decide) rfl (argsL := [(.int (1048576 : Int32)), (.int (64 : Int32))]) (rest := []) pd_1 rfl rfl rfl d11_28 rfl ?_
  rintro _ _ ⟨rfl, rfl⟩
  refine go_st (st' := [(.int (64 : Int32))]) rfl ?_
  refine go_goto C (pc' := 35) d11_31 (by decide) (by decide) ?_
  refine go_istore C (pc' := 37) d11_35 (Ls' := #[(.val (.ref b)), (.val (.int (0 : Int32))), (.val (.int (0 : Int32))), (.val (.int (1048576 : Int32))), (.val (.int (64 : Int32))), .unset, .unset]) rfl rfl ?_
  refine go_iloadN C (pc' := 38) d11_37 rfl rfl ?_
  refine go_aloadN C (pc' := 39) d11_38 rfl rfl rfl ?_
  refine gF C (pc' := 42) (wd_22 hw) S.2.2.2.2.2.2.2.2.2.1 d11_39 rfl ?_
  refine go_alen C (pc' := 43) S.2.2.2.2.2.2.2.2.2.2.2.2.2.1 (z := (1 : Int32)) rfl d11_42 rfl ?_
  refine go_icmpNo C (pc' := 46) d11_43 (by decide) rfl ?_
  refine go_aloadN C (pc' := 47) d11_46 rfl rfl rfl ?_
  refine gF C (pc' := 50) (wd_22 hw) S.2.2.2.2.2.2.2.2.2.1 d11_47 rfl ?_
  refine go_iloadN C (pc' := 51) d11_50 rfl rfl ?_
  refine go_raget C (pc' := 52) S.2.2.2.2.2.2.2.2.2.2.2.2.2.1 rfl (by decide) (i := 0) (by decide) rfl d11_51 rfl ?_
  refine go_ifnullYes C (pc' := 59) d11_52 (by decide) (by decide) ?_
  refine go_iconst C (pc' := 60) d11_59 (z := (0 : Int32)) (by decide) rfl ?_
  refine go_istore C (pc' := 62) d11_60 (Ls' := #[(.val (.ref b)), (.val (.int (0 : Int32))), (.val (.int (0 : Int32))), (.val (.int (1048576 : Int32))), (.val (.int (64 : Int32))), (.val (.int (0 : Int32))), .unset]) rfl rfl ?_
  refine go_iload C (pc' := 64) d11_62 rfl rfl ?_
  refine go_ifYes C (pc' := 81) d11_64 (by decide) (by decide) (by decide) ?_
  refine go_iload C (pc' := 83) d11_81 rfl rfl ?_
  refine go_newPE C (pc' := 85) (len := 64) (ty := .long) (ad := "[J") rfl rfl (wd_24 hw) d11_83 rfl (by decide) (by decide) (by decide) (by decide) (by decide) ?_
  intro h1 b1 k1 g1 n1 E1 A1 X1
  have sz_b1 := Nat.le_trans (Nat.le_refl _) (Nat.le_of_eq g1.symm)
  have lt_b1 : @LT.lt Nat _ pk b1 := by rw [g1]; exact S.2.2.2.2.2.2.2.2.2.2.2.2.2.2.2.2.2.2.2.2.2.1.lt
  refine go_old fun O1 => ?_
  refine go_astore C (pc' := 87) d11_85 rfl (Ls' := #[(.val (.ref b)), (.val (.int (0 : Int32))), (.val (.int (0 : Int32))), (.val (.int (1048576 : Int32))), (.val (.int (64 : Int32))), (.val (.int (0 : Int32))), (.val (.ref b1))]) rfl rfl ?_
  refine go_iloadN C (pc' := 88) d11_87 rfl rfl ?_
  refine go_aloadN C (pc' := 89) d11_88 rfl rfl rfl ?_
  refine gF C (pc' := 92) (wd_22 hw) (S.2.2.2.2.2.2.2.2.2.1.ext E1) d11_89 rfl ?_
  refine go_alen C (pc' := 93) (S.2.2.2.2.2.2.2.2.2.2.2.2.2.1.ext E1) (z := (1 : Int32)) rfl d11_92 rfl ?_
  refine go_icmpYes C (pc' := 113) d11_93 (by decide) (by decide) (by decide) ?_
  refine go_aloadN C (pc' := 114) d11_113 rfl rfl rfl ?_
  refine gF C (pc' := 117) (wd_22 hw) (S.2.2.2.2.2.2.2.2.2.1.ext E1) d11_114 rfl ?_
  refine go_iloadN C (pc' := 118) d11_117 rfl rfl ?_
  refine go_aload C (pc' := 120) d11_118 rfl rfl rfl ?_
  refine go_aaset C (pc' := 121) (S.2.2.2.2.2.2.2.2.2.2.2.2.2.1.ext E1) S.2.2.2.2.2.2.2.2.2.2.2.2.2.2.2.2.2.2.2.2.2.2 (Ins.self X1) (by decide) (i := 0) (by decide) (by simp) (vs' := [(.ref b1)]) rfl d11_120 rfl (by omega) ?_
  intro h2 W2 A2
  refine go_old fun O2 => ?_
  have fx3 := ((S.2.2.2.2.2.2.2.2.2.2.2.1.ext E1).other W2 (Or.inl (ne_i (by omega))))
  have fx4 := ((S.2.2.2.2.2.2.2.2.2.2.2.2.1.ext E1).other W2 (Or.inl (ne_i (by omega))))
  have fx5 := ((S.2.2.2.2.2.2.2.2.2.2.2.2.2.2.2.1.ext E1).other W2 (ne_i (by omega)))
  have fx6 := ((S.2.2.2.2.2.2.2.2.2.2.2.2.2.2.2.2.1.ext E1).other W2 (ne_i (by omega)))
  have fx7 := ((S.2.2.2.2.2.2.2.2.2.2.2.2.2.2.2.2.2.1.ext E1).other W2 (ne_i (by omega)))
  have fx8 := ((S.2.2.2.2.2.2.2.2.2.2.2.2.2.2.2.2.2.2.1.ext E1).other W2 (ne_i (by omega)))
  have fx9 := ((S.2.2.2.2.2.2.2.2.2.2.2.2.2.2.2.2.2.2.2.1.ext E1).other W2 (ne_i (by omega)))
  have fx10 := ((S.2.2.2.2.2.2.2.2.2.2.2.2.2.2.2.2.2.2.2.2.1.ext E1).other W2 (ne_i (by omega)))
  have fx11 := ((S.2.2.2.2.2.2.2.2.2.2.2.2.2.2.2.2.2.2.2.2.2.1.ext E1).other W2 (ne_i (by omega)))
  exact go_ret0 C d11_121 (by decide) (by decide) ⟨rfl, b1, _, by omega, sz_b1, ⟨((S.1.ext E1).wr W2), ((S.2.1.ext E1).other W2 (Or.inl (ne_i (by omega)))), ((S.2.2.1.ext E1).other W2 (Or.inl (ne_i (by omega)))), ((S.2.2.2.1.ext E1).other W2 (Or.inl (ne_i (by omega)))), ((S.2.2.2.2.1.ext E1).other W2 (Or.inl (ne_i (by omega)))), ((S.2.2.2.2.2.1.ext E1).other W2 (Or.inl (ne_i (by omega)))), ((S.2.2.2.2.2.2.1.ext E1).other W2 (Or.inl (ne_i (by omega)))), ((S.2.2.2.2.2.2.2.1.ext E1).other W2 (Or.inl (ne_i (by omega)))), ((S.2.2.2.2.2.2.2.2.1.ext E1).other W2 (Or.inl (ne_i (by omega)))), ((S.2.2.2.2.2.2.2.2.2.1.ext E1).other W2 (Or.inl (ne_i (by omega)))), ((S.2.2.2.2.2.2.2.2.2.2.1.ext E1).other W2 (Or.inl (ne_i (by omega)))), fx3, fx4, A2, ((S.2.2.2.2.2.2.2.2.2.2.2.2.2.2.1.ext E1).other W2 (ne_i (by omega))), fx5, fx6, fx7, fx8, fx9, fx10, fx11, S.2.2.2.2.2.2.2.2.2.2.2.2.2.2.2.2.2.2.2.2.2.2⟩, (A1.other W2 (ne_i (by omega))), (((Keep.refl _ [pgs]).ext E1).wr W2 (Or.inl (by simp)))⟩
set_option maxRecDepth 65536 in
set_option maxHeartbeats 4000000 in
theorem shut1_met (l : Launch) (Z : State) (a0 : Array Value) (hw : ∀ d ∈ tables_1, d.before a0 Z = true) (n0 : Nat) (h : Heap) (O : Old Z n0 h)  {b pgs tb lo hi sh mk fi km pk : Nat} {kpgs ktb klo khi ksh kmk kfi kkm kpk : ClassId} {l0 u0 l1 u1 l2 u2 l3 u3 s1 s2 s3 : Int32} {m0 m1 m2 m3 KM0 : Int64} {pg : Nat} {sz : Int32} {vt : List Value} {p0 : Int64} (S : Sto Z h b pgs tb lo hi sh mk fi km pk kpgs ktb klo khi ksh kmk kfi kkm kpk (1 : Int32) (20 : Int32) sz [(.ref pg)] vt [(.int l0), (.int l1), (.int l2), (.int l3)] [(.int u0), (.int u1), (.int u2), (.int u3)] [(.int (0 : Int32)), (.int s1), (.int s2), (.int s3)] [(.long m0), (.long m1), (.long m2), (.long m3)] [(.int (0 : Int32)), (.int (4 : Int32))] [(.long KM0)] [(.long p0)]) (o : Ord n0 b pgs tb lo hi sh mk fi km pk) :
    Met l Z n0 site_346 prog_52_method_11_code 1 none [] ({ frames := 0, cells := 0, slots := 0, locals := 0 } : Room) #[(.ref b)] h (fun v h' => v = none ∧ Stz Z h' b pgs lo hi sh mk fi km pk kpgs klo khi ksh kmk kfi kkm kpk (1 : Int32) (20 : Int32) sz [(.ref pg)] [(.int l0), (.int l1), (.int l2), (.int l3)] [(.int u0), (.int u1), (.int u2), (.int u3)] [(.int (0 : Int32)), (.int s1), (.int s2), (.int s3)] [(.long m0), (.long m1), (.long m2), (.long m3)] [(.int (0 : Int32)), (.int (4 : Int32))] [(.long KM0)] [(.long p0)] ∧ Keep h h' [b]) := by
  refine met_of (Ls := #[(.val (.ref b))]) (by decide +kernel) (fun m => by first | (simp [entryFrame, mkF, argsToLocals, Value.category]; done) | rfl) O ?_
  intro p e s m below meth cd C
  obtain ⟨o0, o1, o2, o3, o4, o5, o6, o7, o8, o9⟩ := o
  refine go_aloadN C (pc' := 1) d12_0 rfl rfl rfl ?_
  refine go_aconstNull C (pc' := 2) d12_1 rfl ?_
  refine go_putF C (pc' := 5) (host := "") (Or.inl (wd_25 hw)) Via.refl S.2.2.2.2.2.2.2.2.2.2.2.1 S.1 (Or.inl (wd_26 hw)) (wd_12 hw) (ty := (.array .long)) (by decide) rfl rfl d12_2 rfl (by omega) ?_
  intro h1 W1 F1
  refine go_old fun O1 => ?_
  have fx2 := (S.2.2.2.2.2.2.2.2.2.2.2.2.2.2.2.2.2.2.2.2.1.other W1 (ne_i (by omega)))
  have fx3 := (S.2.2.2.2.2.2.2.2.2.2.2.2.2.2.2.2.2.2.2.2.2.1.other W1 (ne_i (by omega)))
  exact go_ret0 C d12_5 (by decide) (by decide) ⟨rfl, ⟨(S.1.wr W1), (S.2.1.other W1 (Or.inr (sn_2 hw))), (S.2.2.1.other W1 (Or.inr (sn_4 hw))), (S.2.2.2.1.other W1 (Or.inr (sn_16 hw))), (S.2.2.2.2.1.other W1 (Or.inr (sn_22 hw))), (S.2.2.2.2.2.1.other W1 (Or.inr (sn_7 hw))), (S.2.2.2.2.2.2.1.other W1 (Or.inr (sn_11 hw))), (S.2.2.2.2.2.2.2.1.other W1 (Or.inr (sn_29 hw))), (S.2.2.2.2.2.2.2.2.1.other W1 (Or.inr (sn_37 hw))), (S.2.2.2.2.2.2.2.2.2.1.other W1 (Or.inr (sn_0 hw).symm)), (S.2.2.2.2.2.2.2.2.2.2.1.other W1 (Or.inr (sn_46 hw))), (S.2.2.2.2.2.2.2.2.2.2.2.2.1.other W1 (Or.inr (sn_55 hw))), (S.2.2.2.2.2.2.2.2.2.2.2.2.2.1.other W1 (ne_i (by omega))), (S.2.2.2.2.2.2.2.2.2.2.2.2.2.2.2.1.other W1 (ne_i (by omega))), (S.2.2.2.2.2.2.2.2.2.2.2.2.2.2.2.2.1.other W1 (ne_i (by omega))), (S.2.2.2.2.2.2.2.2.2.2.2.2.2.2.2.2.2.1.other W1 (ne_i (by omega))), (S.2.2.2.2.2.2.2.2.2.2.2.2.2.2.2.2.2.2.1.other W1 (ne_i (by omega))), (S.2.2.2.2.2.2.2.2.2.2.2.2.2.2.2.2.2.2.2.1.other W1 (ne_i (by omega))), fx2, fx3⟩, ((Keep.refl _ [b]).wr W1 (Or.inl (by simp)))⟩
set_option maxRecDepth 65536 in
set_option maxHeartbeats 4000000 in
theorem copy1_met (l : Launch) (Z : State) (a0 : Array Value) (hw : ∀ d ∈ tables_1, d.before a0 Z = true) (n0 : Nat) (h : Heap) (O : Old Z n0 h)  {b pgs tb lo hi sh mk fi km pk : Nat} {kpgs klo khi ksh kmk kfi kkm kpk : ClassId} {l0 u0 l1 u1 l2 u2 l3 u3 s1 s2 s3 : Int32} {m0 m1 m2 m3 KM0 : Int64} {into pg i0 : Nat} {ki kpg : ClassId} {sz j J f0 f1 f2 f3 f4 : Int32} {vg : List Value} {p0 e0 : Int64} (S : Stz Z h b pgs lo hi sh mk fi km pk kpgs klo khi ksh kmk kfi kkm kpk (1 : Int32) (20 : Int32) sz [(.ref pg)] [(.int l0), (.int l1), (.int l2), (.int l3)] [(.int u0), (.int u1), (.int u2), (.int u3)] [(.int (0 : Int32)), (.int s1), (.int s2), (.int s3)] [(.long m0), (.long m1), (.long m2), (.long m3)] [(.int (0 : Int32)), (.int (4 : Int32))] [(.long KM0)] [(.long p0)]) (o : Ord n0 b pgs tb lo hi sh mk fi km pk) (qi : into < b) (ni : n0 ≤ into) (Apg : Ar Z h pg .long kpg vg) (qpg : pk < pg) (hj1 : ((j).toUInt32 >>> ((20 : Int32) &&& 31).toUInt32).toInt32 = 0) (hj2 : ((j &&& (1048575 : Int32)) * (1 : Int32)) = J) (hn0 : ¬ (J + (0 : Int32)) < 0) (hi0 : (J + (0 : Int32)).toNatClampNeg = i0) (hr0 : vg[i0]? = some (.long e0)) (Ai : Ar Z h into .int ki [(.int f0), (.int f1), (.int f2), (.int f3), (.int f4)]) :
    Met l Z n0 (⟨"com/example/invariant/invariant/check/ConfigurationStore", "copy", "(I[I)V"⟩ : MethodName) prog_52_method_12_code 9 none [] ({ frames := 0, cells := 0, slots := 0, locals := 0 } : Room) #[(.ref b), (.int j), (.ref into)] h (fun v h' => v = none ∧ Ar Z h' into .int ki [(.int (un e0 (0 : Int32) m0 l0)), (.int (un e0 s1 m1 l1)), (.int (un e0 s2 m2 l2)), (.int (un e0 s3 m3 l3)), (.int f4)] ∧ Keep h h' [into]) := by
  refine met_of (Ls := #[(.val (.ref b)), (.val (.int j)), (.val (.ref into)), .unset, .unset, .unset, .unset, .unset, .unset]) (by decide +kernel) (fun m => by first | (simp [entryFrame, mkF, argsToLocals, Value.category]; done) | rfl) O ?_
  intro p e s m below meth cd C
  obtain ⟨o0, o1, o2, o3, o4, o5, o6, o7, o8, o9⟩ := o
  refine go_aloadN C (pc' := 1) d13_0 rfl rfl rfl ?_
  refine gF C (pc' := 4) (wd_22 hw) S.2.2.2.2.2.2.2.2.2.1 d13_1 rfl ?_
  refine go_iloadN C (pc' := 5) d13_4 rfl rfl ?_
  refine go_aloadN C (pc' := 6) d13_5 rfl rfl rfl ?_
  refine gF C (pc' := 9) (wd_71 hw) S.2.2.2.2.2.2.2.2.1 d13_6 rfl ?_
  refine go_iushr C (pc' := 10) d13_9 rfl ?_
  refine go_st (st' := [(.int (0 : Int32)), (.ref pgs)]) (by rw [hj1]) ?_
  refine go_raget C (pc' := 11) S.2.2.2.2.2.2.2.2.2.2.2.2.1 rfl (by decide) (i := 0) (by decide) rfl d13_10 rfl ?_
  refine go_astoreN C (pc' := 12) d13_11 rfl (Ls' := #[(.val (.ref b)), (.val (.int j)), (.val (.ref into)), (.val (.ref pg)), .unset, .unset, .unset, .unset, .unset]) rfl rfl ?_
  refine go_iloadN C (pc' := 13) d13_12 rfl rfl ?_
  refine go_iconst C (pc' := 14) d13_13 (z := (1 : Int32)) (by decide) rfl ?_
  refine go_aloadN C (pc' := 15) d13_14 rfl rfl rfl ?_
  refine gF C (pc' := 18) (wd_71 hw) S.2.2.2.2.2.2.2.2.1 d13_15 rfl ?_
  refine go_ishl C (pc' := 19) d13_18 rfl ?_
  refine go_st (st' := [(.int (1048576 : Int32)), (.int j)]) (by rw [show ((1 : Int32) <<< ((20 : Int32) &&& 31)) = (1048576 : Int32) from by decide]) ?_
  refine go_iconst C (pc' := 20) d13_19 (z := (1 : Int32)) (by decide) rfl ?_
  refine go_isub C (pc' := 21) d13_20 rfl ?_
  refine go_st (st' := [(.int (1048575 : Int32)), (.int j)]) (by rw [show ((1048576 : Int32) - (1 : Int32)) = (1048575 : Int32) from by decide]) ?_
  refine go_iand C (pc' := 22) d13_21 rfl ?_
  refine go_aloadN C (pc' := 23) d13_22 rfl rfl rfl ?_
  refine gF C (pc' := 26) (wd_64 hw) S.2.2.2.2.1 d13_23 rfl ?_
  refine go_imul C (pc' := 27) d13_26 rfl ?_
  refine go_st (st' := [(.int J)]) (by rw [hj2]) ?_
  refine go_istore C (pc' := 29) d13_27 (Ls' := #[(.val (.ref b)), (.val (.int j)), (.val (.ref into)), (.val (.ref pg)), (.val (.int J)), .unset, .unset, .unset, .unset]) rfl rfl ?_
  refine go_iconst C (pc' := 30) d13_29 (z := (0 : Int32)) (by decide) rfl ?_
  refine go_istore C (pc' := 32) d13_30 (Ls' := #[(.val (.ref b)), (.val (.int j)), (.val (.ref into)), (.val (.ref pg)), (.val (.int J)), (.val (.int (0 : Int32))), .unset, .unset, .unset]) rfl rfl ?_
  refine go_iload C (pc' := 34) d13_32 rfl rfl ?_
  refine go_aloadN C (pc' := 35) d13_34 rfl rfl rfl ?_
  refine gF C (pc' := 38) (wd_64 hw) S.2.2.2.2.1 d13_35 rfl ?_
  refine go_icmpNo C (pc' := 41) d13_38 (by decide) rfl ?_
  refine go_aloadN C (pc' := 42) d13_41 rfl rfl rfl ?_
  refine go_iload C (pc' := 44) d13_42 rfl rfl ?_
  refine go_iload C (pc' := 46) d13_44 rfl rfl ?_
  refine go_iadd C (pc' := 47) d13_46 rfl ?_
  refine go_laget C (pc' := 48) Apg hn0 (i := i0) hi0 hr0 d13_47 rfl ?_
  refine go_lstore C (pc' := 50) d13_48 (Ls' := #[(.val (.ref b)), (.val (.int j)), (.val (.ref into)), (.val (.ref pg)), (.val (.int J)), (.val (.int (0 : Int32))), (.val (.long e0)), .second, .unset]) rfl rfl ?_
  refine go_aloadN C (pc' := 51) d13_50 rfl rfl rfl ?_
  refine gF C (pc' := 54) (wd_62 hw) S.2.2.2.1 d13_51 rfl ?_
  refine go_iload C (pc' := 56) d13_54 rfl rfl ?_
  refine go_iaget C (pc' := 57) S.2.2.2.2.2.2.2.2.2.2.2.2.2.2.2.2.2.1 (by decide) (i := 0) (by decide) rfl d13_56 rfl ?_
  refine go_istore C (pc' := 59) d13_57 (Ls' := #[(.val (.ref b)), (.val (.int j)), (.val (.ref into)), (.val (.ref pg)), (.val (.int J)), (.val (.int (0 : Int32))), (.val (.long e0)), .second, (.val (.int (0 : Int32)))]) rfl rfl ?_
  refine go_iload C (pc' := 61) d13_59 rfl rfl ?_
  refine go_aloadN C (pc' := 62) d13_61 rfl rfl rfl ?_
  refine gF C (pc' := 65) (wd_62 hw) S.2.2.2.1 d13_62 rfl ?_
  refine go_iload C (pc' := 67) d13_65 rfl rfl ?_
  refine go_iconst C (pc' := 68) d13_67 (z := (1 : Int32)) (by decide) rfl ?_
  refine go_iadd C (pc' := 69) d13_68 rfl ?_
  refine go_st (st' := [(.int (1 : Int32)), (.ref fi), (.int (0 : Int32))]) (by rw [show ((0 : Int32) + (1 : Int32)) = (1 : Int32) from by decide]) ?_
  refine go_iaget C (pc' := 70) S.2.2.2.2.2.2.2.2.2.2.2.2.2.2.2.2.2.1 (by decide) (i := 1) (by decide) rfl d13_69 rfl ?_
  refine go_icmpNo C (pc' := 73) d13_70 (by decide) rfl ?_
  refine go_aloadN C (pc' := 74) d13_73 rfl rfl rfl ?_
  refine go_iload C (pc' := 76) d13_74 rfl rfl ?_
  refine go_lload C (pc' := 78) d13_76 rfl rfl ?_
  refine go_aloadN C (pc' := 79) d13_78 rfl rfl rfl ?_
  refine gF C (pc' := 82) (wd_40 hw) S.2.2.2.2.2.1 d13_79 rfl ?_
  refine go_iload C (pc' := 84) d13_82 rfl rfl ?_
  refine go_iaget C (pc' := 85) S.2.2.2.2.2.2.2.2.2.2.2.2.2.2.2.1 (by decide) (i := 0) (by decide) rfl d13_84 rfl ?_
  refine go_lushr C (pc' := 86) d13_85 rfl ?_
  refine go_aloadN C (pc' := 87) d13_86 rfl rfl rfl ?_
  refine gF C (pc' := 90) (wd_42 hw) S.2.2.2.2.2.2.1 d13_87 rfl ?_
  refine go_iload C (pc' := 92) d13_90 rfl rfl ?_
  refine go_laget C (pc' := 93) S.2.2.2.2.2.2.2.2.2.2.2.2.2.2.2.2.1 (by decide) (i := 0) (by decide) rfl d13_92 rfl ?_
  refine go_land C (pc' := 94) d13_93 rfl ?_
  refine go_aloadN C (pc' := 95) d13_94 rfl rfl rfl ?_
  refine gF C (pc' := 98) (wd_36 hw) S.2.1 d13_95 rfl ?_
  refine go_iload C (pc' := 100) d13_98 rfl rfl ?_
  refine go_iaget C (pc' := 101) S.2.2.2.2.2.2.2.2.2.2.2.2.2.1 (by decide) (i := 0) (by decide) rfl d13_100 rfl ?_
  refine go_i2l C (pc' := 102) d13_101 rfl ?_
  refine go_ladd C (pc' := 103) d13_102 rfl ?_
  refine go_l2i C (pc' := 104) d13_103 rfl ?_
  refine go_st (st' := [(.int (un e0 (0 : Int32) m0 l0)), (.int (0 : Int32)), (.ref into)]) rfl ?_
  refine go_iaset C (pc' := 105) Ai (by decide) (i := 0) (by decide) (by simp) (vs' := [(.int (un e0 (0 : Int32) m0 l0)), (.int f1), (.int f2), (.int f3), (.int f4)]) rfl d13_104 rfl ni ?_
  intro h1 W1 A1
  refine go_old fun O1 => ?_
  refine gI C (pc' := 108) d13_105 rfl (z := (1 : Int32)) (by decide) (Ls' := #[(.val (.ref b)), (.val (.int j)), (.val (.ref into)), (.val (.ref pg)), (.val (.int J)), (.val (.int (0 : Int32))), (.val (.long e0)), .second, (.val (.int (1 : Int32)))]) rfl rfl ?_
  refine go_goto C (pc' := 59) d13_108 (by decide) (by decide) ?_
  refine go_iload C (pc' := 61) d13_59 rfl rfl ?_
  refine go_aloadN C (pc' := 62) d13_61 rfl rfl rfl ?_
  refine gF C (pc' := 65) (wd_62 hw) (S.2.2.2.1.other W1 (Or.inl (ne_i (by omega)))) d13_62 rfl ?_
  refine go_iload C (pc' := 67) d13_65 rfl rfl ?_
  refine go_iconst C (pc' := 68) d13_67 (z := (1 : Int32)) (by decide) rfl ?_
  refine go_iadd C (pc' := 69) d13_68 rfl ?_
  refine go_st (st' := [(.int (1 : Int32)), (.ref fi), (.int (1 : Int32))]) (by rw [show ((0 : Int32) + (1 : Int32)) = (1 : Int32) from by decide]) ?_
  refine go_iaget C (pc' := 70) (S.2.2.2.2.2.2.2.2.2.2.2.2.2.2.2.2.2.1.other W1 (ne_i (by omega))) (by decide) (i := 1) (by decide) rfl d13_69 rfl ?_
  refine go_icmpNo C (pc' := 73) d13_70 (by decide) rfl ?_
  refine go_aloadN C (pc' := 74) d13_73 rfl rfl rfl ?_
  refine go_iload C (pc' := 76) d13_74 rfl rfl ?_
  refine go_lload C (pc' := 78) d13_76 rfl rfl ?_
  refine go_aloadN C (pc' := 79) d13_78 rfl rfl rfl ?_
  refine gF C (pc' := 82) (wd_40 hw) (S.2.2.2.2.2.1.other W1 (Or.inl (ne_i (by omega)))) d13_79 rfl ?_
  refine go_iload C (pc' := 84) d13_82 rfl rfl ?_
  refine go_iaget C (pc' := 85) (S.2.2.2.2.2.2.2.2.2.2.2.2.2.2.2.1.other W1 (ne_i (by omega))) (by decide) (i := 1) (by decide) rfl d13_84 rfl ?_
  refine go_lushr C (pc' := 86) d13_85 rfl ?_
  refine go_aloadN C (pc' := 87) d13_86 rfl rfl rfl ?_
  refine gF C (pc' := 90) (wd_42 hw) (S.2.2.2.2.2.2.1.other W1 (Or.inl (ne_i (by omega)))) d13_87 rfl ?_
  refine go_iload C (pc' := 92) d13_90 rfl rfl ?_
  refine go_laget C (pc' := 93) (S.2.2.2.2.2.2.2.2.2.2.2.2.2.2.2.2.1.other W1 (ne_i (by omega))) (by decide) (i := 1) (by decide) rfl d13_92 rfl ?_
  refine go_land C (pc' := 94) d13_93 rfl ?_
  refine go_aloadN C (pc' := 95) d13_94 rfl rfl rfl ?_
  refine gF C (pc' := 98) (wd_36 hw) (S.2.1.other W1 (Or.inl (ne_i (by omega)))) d13_95 rfl ?_
  refine go_iload C (pc' := 100) d13_98 rfl rfl ?_
  refine go_iaget C (pc' := 101) (S.2.2.2.2.2.2.2.2.2.2.2.2.2.1.other W1 (ne_i (by omega))) (by decide) (i := 1) (by decide) rfl d13_100 rfl ?_
  refine go_i2l C (pc' := 102) d13_101 rfl ?_
  refine go_ladd C (pc' := 103) d13_102 rfl ?_
  refine go_l2i C (pc' := 104) d13_103 rfl ?_
  refine go_st (st' := [(.int (un e0 s1 m1 l1)), (.int (1 : Int32)), (.ref into)]) rfl ?_
  refine go_iaset C (pc' := 105) A1 (by decide) (i := 1) (by decide) (by simp) (vs' := [(.int (un e0 (0 : Int32) m0 l0)), (.int (un e0 s1 m1 l1)), (.int f2), (.int f3), (.int f4)]) rfl d13_104 rfl ni ?_
  intro h2 W2 A2
  refine go_old fun O2 => ?_
  refine gI C (pc' := 108) d13_105 rfl (z := (2 : Int32)) (by decide) (Ls' := #[(.val (.ref b)), (.val (.int j)), (.val (.ref into)), (.val (.ref pg)), (.val (.int J)), (.val (.int (0 : Int32))), (.val (.long e0)), .second, (.val (.int (2 : Int32)))]) rfl rfl ?_
  refine go_goto C (pc' := 59) d13_108 (by decide) (by decide) ?_
  refine go_iload C (pc' := 61) d13_59 rfl rfl ?_
  refine go_aloadN C (pc' := 62) d13_61 rfl rfl rfl ?_
  have fx3 := ((S.2.2.2.1.other W1 (Or.inl (ne_i (by omega)))).other W2 (Or.inl (ne_i (by omega))))
  refine gF C (pc' := 65) (wd_62 hw) fx3 d13_62 rfl ?_
  refine go_iload C (pc' := 67) d13_65 rfl rfl ?_
  refine go_iconst C (pc' := 68) d13_67 (z := (1 : Int32)) (by decide) rfl ?_
  refine go_iadd C (pc' := 69) d13_68 rfl ?_
  refine go_st (st' := [(.int (1 : Int32)), (.ref fi), (.int (2 : Int32))]) (by rw [show ((0 : Int32) + (1 : Int32)) = (1 : Int32) from by decide]) ?_
  have fx4 := ((S.2.2.2.2.2.2.2.2.2.2.2.2.2.2.2.2.2.1.other W1 (ne_i (by omega))).other W2 (ne_i (by omega)))
  refine go_iaget C (pc' := 70) fx4 (by decide) (i := 1) (by decide) rfl d13_69 rfl ?_
  refine go_icmpNo C (pc' := 73) d13_70 (by decide) rfl ?_
  refine go_aloadN C (pc' := 74) d13_73 rfl rfl rfl ?_
  refine go_iload C (pc' := 76) d13_74 rfl rfl ?_
  refine go_lload C (pc' := 78) d13_76 rfl rfl ?_
  refine go_aloadN C (pc' := 79) d13_78 rfl rfl rfl ?_
  have fx5 := ((S.2.2.2.2.2.1.other W1 (Or.inl (ne_i (by omega)))).other W2 (Or.inl (ne_i (by omega))))
  refine gF C (pc' := 82) (wd_40 hw) fx5 d13_79 rfl ?_
  refine go_iload C (pc' := 84) d13_82 rfl rfl ?_
  have fx6 := ((S.2.2.2.2.2.2.2.2.2.2.2.2.2.2.2.1.other W1 (ne_i (by omega))).other W2 (ne_i (by omega)))
  refine go_iaget C (pc' := 85) fx6 (by decide) (i := 2) (by decide) rfl d13_84 rfl ?_
  refine go_lushr C (pc' := 86) d13_85 rfl ?_
  refine go_aloadN C (pc' := 87) d13_86 rfl rfl rfl ?_
  have fx7 := ((S.2.2.2.2.2.2.1.other W1 (Or.inl (ne_i (by omega)))).other W2 (Or.inl (ne_i (by omega))))
  refine gF C (pc' := 90) (wd_42 hw) fx7 d13_87 rfl ?_
  refine go_iload C (pc' := 92) d13_90 rfl rfl ?_
  have fx8 := ((S.2.2.2.2.2.2.2.2.2.2.2.2.2.2.2.2.1.other W1 (ne_i (by omega))).other W2 (ne_i (by omega)))
  refine go_laget C (pc' := 93) fx8 (by decide) (i := 2) (by decide) rfl d13_92 rfl ?_
  refine go_land C (pc' := 94) d13_93 rfl ?_
  refine go_aloadN C (pc' := 95) d13_94 rfl rfl rfl ?_
  have fx9 := ((S.2.1.other W1 (Or.inl (ne_i (by omega)))).other W2 (Or.inl (ne_i (by omega))))
  refine gF C (pc' := 98) (wd_36 hw) fx9 d13_95 rfl ?_
  refine go_iload C (pc' := 100) d13_98 rfl rfl ?_
  have fx10 := ((S.2.2.2.2.2.2.2.2.2.2.2.2.2.1.other W1 (ne_i (by omega))).other W2 (ne_i (by omega)))
  refine go_iaget C (pc' := 101) fx10 (by decide) (i := 2) (by decide) rfl d13_100 rfl ?_
  refine go_i2l C (pc' := 102) d13_101 rfl ?_
  refine go_ladd C (pc' := 103) d13_102 rfl ?_
  refine go_l2i C (pc' := 104) d13_103 rfl ?_
  refine go_st (st' := [(.int (un e0 s2 m2 l2)), (.int (2 : Int32)), (.ref into)]) rfl ?_
  refine go_iaset C (pc' := 105) A2 (by decide) (i := 2) (by decide) (by simp) (vs' := [(.int (un e0 (0 : Int32) m0 l0)), (.int (un e0 s1 m1 l1)), (.int (un e0 s2 m2 l2)), (.int f3), (.int f4)]) rfl d13_104 rfl ni ?_
  intro h11 W11 A11
  refine go_old fun O11 => ?_
  refine gI C (pc' := 108) d13_105 rfl (z := (3 : Int32)) (by decide) (Ls' := #[(.val (.ref b)), (.val (.int j)), (.val (.ref into)), (.val (.ref pg)), (.val (.int J)), (.val (.int (0 : Int32))), (.val (.long e0)), .second, (.val (.int (3 : Int32)))]) rfl rfl ?_
  refine go_goto C (pc' := 59) d13_108 (by decide) (by decide) ?_
  refine go_iload C (pc' := 61) d13_59 rfl rfl ?_
  refine go_aloadN C (pc' := 62) d13_61 rfl rfl rfl ?_
  refine gF C (pc' := 65) (wd_62 hw) (fx3.other W11 (Or.inl (ne_i (by omega)))) d13_62 rfl ?_
  refine go_iload C (pc' := 67) d13_65 rfl rfl ?_
  refine go_iconst C (pc' := 68) d13_67 (z := (1 : Int32)) (by decide) rfl ?_
  refine go_iadd C (pc' := 69) d13_68 rfl ?_
  refine go_st (st' := [(.int (1 : Int32)), (.ref fi), (.int (3 : Int32))]) (by rw [show ((0 : Int32) + (1 : Int32)) = (1 : Int32) from by decide]) ?_
  refine go_iaget C (pc' := 70) (fx4.other W11 (ne_i (by omega))) (by decide) (i := 1) (by decide) rfl d13_69 rfl ?_
  refine go_icmpNo C (pc' := 73) d13_70 (by decide) rfl ?_
  refine go_aloadN C (pc' := 74) d13_73 rfl rfl rfl ?_
  refine go_iload C (pc' := 76) d13_74 rfl rfl ?_
  refine go_lload C (pc' := 78) d13_76 rfl rfl ?_
  refine go_aloadN C (pc' := 79) d13_78 rfl rfl rfl ?_
  refine gF C (pc' := 82) (wd_40 hw) (fx5.other W11 (Or.inl (ne_i (by omega)))) d13_79 rfl ?_
  refine go_iload C (pc' := 84) d13_82 rfl rfl ?_
  refine go_iaget C (pc' := 85) (fx6.other W11 (ne_i (by omega))) (by decide) (i := 3) (by decide) rfl d13_84 rfl ?_
  refine go_lushr C (pc' := 86) d13_85 rfl ?_
  refine go_aloadN C (pc' := 87) d13_86 rfl rfl rfl ?_
  refine gF C (pc' := 90) (wd_42 hw) (fx7.other W11 (Or.inl (ne_i (by omega)))) d13_87 rfl ?_
  refine go_iload C (pc' := 92) d13_90 rfl rfl ?_
  refine go_laget C (pc' := 93) (fx8.other W11 (ne_i (by omega))) (by decide) (i := 3) (by decide) rfl d13_92 rfl ?_
  refine go_land C (pc' := 94) d13_93 rfl ?_
  refine go_aloadN C (pc' := 95) d13_94 rfl rfl rfl ?_
  refine gF C (pc' := 98) (wd_36 hw) (fx9.other W11 (Or.inl (ne_i (by omega)))) d13_95 rfl ?_
  refine go_iload C (pc' := 100) d13_98 rfl rfl ?_
  refine go_iaget C (pc' := 101) (fx10.other W11 (ne_i (by omega))) (by decide) (i := 3) (by decide) rfl d13_100 rfl ?_
  refine go_i2l C (pc' := 102) d13_101 rfl ?_
  refine go_ladd C (pc' := 103) d13_102 rfl ?_
  refine go_l2i C (pc' := 104) d13_103 rfl ?_
  refine go_st (st' := [(.int (un e0 s3 m3 l3)), (.int (3 : Int32)), (.ref into)]) rfl ?_
  refine go_iaset C (pc' := 105) A11 (by decide) (i := 3) (by decide) (by simp) (vs' := [(.int (un e0 (0 : Int32) m0 l0)), (.int (un e0 s1 m1 l1)), (.int (un e0 s2 m2 l2)), (.int (un e0 s3 m3 l3)), (.int f4)]) rfl d13_104 rfl ni ?_
  intro h12 W12 A12
  refine go_old fun O12 => ?_
  refine gI C (pc' := 108) d13_105 rfl (z := (4 : Int32)) (by decide) (Ls' := #[(.val (.ref b)), (.val (.int j)), (.val (.ref into)), (.val (.ref pg)), (.val (.int J)), (.val (.int (0 : Int32))), (.val (.long e0)), .second, (.val (.int (4 : Int32)))]) rfl rfl ?_
  refine go_goto C (pc' := 59) d13_108 (by decide) (by decide) ?_
  refine go_iload C (pc' := 61) d13_59 rfl rfl ?_
  refine go_aloadN C (pc' := 62) d13_61 rfl rfl rfl ?_
  have fx13 := ((fx3.other W11 (Or.inl (ne_i (by omega)))).other W12 (Or.inl (ne_i (by omega))))
  refine gF C (pc' := 65) (wd_62 hw) fx13 d13_62 rfl ?_
  refine go_iload C (pc' := 67) d13_65 rfl rfl ?_
  refine go_iconst C (pc' := 68) d13_67 (z := (1 : Int32)) (by decide) rfl ?_
  refine go_iadd C (pc' := 69) d13_68 rfl ?_
  refine go_st (st' := [(.int (1 : Int32)), (.ref fi), (.int (4 : Int32))]) (by rw [show ((0 : Int32) + (1 : Int32)) = (1 : Int32) from by decide]) ?_
  refine go_iaget C (pc' := 70) ((fx4.other W11 (ne_i (by omega))).other W12 (ne_i (by omega))) (by decide) (i := 1) (by decide) rfl d13_69 rfl ?_
  refine go_icmpYes C (pc' := 111) d13_70 (by decide) (by decide) (by decide) ?_
  refine gI C (pc' := 114) d13_111 rfl (z := (1 : Int32)) (by decide) (Ls' := #[(.val (.ref b)), (.val (.int j)), (.val (.ref into)), (.val (.ref pg)), (.val (.int J)), (.val (.int (1 : Int32))), (.val (.long e0)), .second, (.val (.int (4 : Int32)))]) rfl rfl ?_
  refine go_goto C (pc' := 32) d13_114 (by decide) (by decide) ?_
  refine go_iload C (pc' := 34) d13_32 rfl rfl ?_
  refine go_aloadN C (pc' := 35) d13_34 rfl rfl rfl ?_
  have fx14 := ((((S.2.2.2.2.1.other W1 (Or.inl (ne_i (by omega)))).other W2 (Or.inl (ne_i (by omega)))).other W11 (Or.inl (ne_i (by omega)))).other W12 (Or.inl (ne_i (by omega))))
  refine gF C (pc' := 38) (wd_64 hw) fx14 d13_35 rfl ?_
  refine go_icmpYes C (pc' := 117) d13_38 (by decide) (by decide) (by decide) ?_
  exact go_ret0 C d13_117 (by decide) (by decide) ⟨rfl, A12, (((((Keep.refl _ [into]).wr W1 (Or.inl (by simp))).wr W2 (Or.inl (by simp))).wr W11 (Or.inl (by simp))).wr W12 (Or.inl (by simp)))⟩
set_option maxRecDepth 65536 in
set_option maxHeartbeats 4000000 in
theorem add2_1_0_met (l : Launch) (Z : State) (a0 : Array Value) (hw : ∀ d ∈ tables_1, d.before a0 Z = true) (n0 : Nat) (h : Heap) (O : Old Z n0 h)  {b pgs tb lo hi sh mk fi km pk : Nat} {kpgs ktb klo khi ksh kmk kfi kkm kpk : ClassId} {l0 u0 l1 u1 l2 u2 l3 u3 s1 s2 s3 : Int32} {m0 m1 m2 m3 KM0 : Int64} {vt : List Value} {hs : Int32} {p0 q0 : Int64} (S : Sto Z h b pgs tb lo hi sh mk fi km pk kpgs ktb klo khi ksh kmk kfi kkm kpk (1 : Int32) (20 : Int32) (0 : Int32) [.null] vt [(.int l0), (.int l1), (.int l2), (.int l3)] [(.int u0), (.int u1), (.int u2), (.int u3)] [(.int (0 : Int32)), (.int s1), (.int s2), (.int s3)] [(.long m0), (.long m1), (.long m2), (.long m3)] [(.int (0 : Int32)), (.int (4 : Int32))] [(.long KM0)] [(.long p0)]) (o : Ord n0 b pgs tb lo hi sh mk fi km pk) {cf : Nat} {kcf : ClassId} {c0 c1 c2 c3 : Int32} (Acf : Ar Z h cf .int kcf [(.int c0), (.int c1), (.int c2), (.int c3)]) (qcf : cf < b) (hl0 : ¬ c0 < l0) (hu0 : ¬ u0 < c0) (hl1 : ¬ c1 < l1) (hu1 : ¬ u1 < c1) (hl2 : ¬ c2 < l2) (hu2 : ¬ u2 < c2) (hl3 : ¬ c3 < l3) (hu3 : ¬ u3 < c3) (hP0 : (((((0 : Int64) ||| (pt c0 l0 (0 : Int32))) ||| (pt c1 l1 s1)) ||| (pt c2 l2 s2)) ||| (pt c3 l3 s3)) = q0) (hhs : (hfin (hst (0 : Int64) q0 KM0)) = hs) (T : T0 vt) :
    Met l Z n0 (⟨"com/example/invariant/invariant/check/ConfigurationStore", "add", "([ILjava/util/function/IntPredicate;)I"⟩ : MethodName) prog_52_method_8_code 8 (some .int) [] ({ frames := 2, cells := 1, slots := 64, locals := 40 } : Room) #[(.ref b), (.ref cf), .null] h (fun v h' => v = some (.int (0 : Int32)) ∧ ∃ (pg : Nat) (kpg : ClassId) (vt' : List Value), T1 vt' hs ∧ pk < pg ∧ Sto Z h' b pgs tb lo hi sh mk fi km pk kpgs ktb klo khi ksh kmk kfi kkm kpk (1 : Int32) (20 : Int32) (1 : Int32) [(.ref pg)] vt' [(.int l0), (.int l1), (.int l2), (.int l3)] [(.int u0), (.int u1), (.int u2), (.int u3)] [(.int (0 : Int32)), (.int s1), (.int s2), (.int s3)] [(.long m0), (.long m1), (.long m2), (.long m3)] [(.int (0 : Int32)), (.int (4 : Int32))] [(.long KM0)] [(.long q0)] ∧ Ar Z h' pg .long kpg (.long q0 :: List.replicate 63 (.long (0 : Int64))) ∧ Keep h h' [b, pgs, tb, pk]) := by
  refine met_of (Ls := #[(.val (.ref b)), (.val (.ref cf)), (.val .null), .unset, .unset, .unset, .unset, .unset]) (by decide +kernel) (fun m => by first | (simp [entryFrame, mkF, argsToLocals, Value.category]; done) | rfl) O ?_
  intro p e s m below meth cd C
  have o' := o
  obtain ⟨o0, o1, o2, o3, o4, o5, o6, o7, o8, o9⟩ := o
  refine go_aloadN C (pc' := 1) d14_0 rfl rfl rfl ?_
  refine go_aloadN C (pc' := 2) d14_1 rfl rfl rfl ?_
  refine go_callP C (pc' := 5) (y' := (⟨"com/example/invariant/invariant/check/ConfigurationStore", "pack", "([I)I"⟩ : MethodName)) (wd_85 hw) (wd_86 hw) (wd_87 hw) (wd_12 hw) (pack1_met l Z a0 hw _ _ O S o' Acf qcf hl0 hu0 hl1 hu1 hl2 hu2 hl3 hu3) (wd_88 hw) (wd_13 hw) (by decide) (by decide) (W := 0) (Nat.le_of_ble_eq_true rfl) (by decide) (by decide) (by decide) rfl S.1 (argsL := [(.ref cf)]) (rest := []) pd_5 rfl rfl rfl d14_2 rfl ?_
  rintro _ h1 ⟨rfl, S1, Kp1⟩
  refine go_st (st' := [(.int (hfin (hst (0 : Int64) (((((0 : Int64) ||| (pt c0 l0 (0 : Int32))) ||| (pt c1 l1 s1)) ||| (pt c2 l2 s2)) ||| (pt c3 l3 s3)) KM0)))]) rfl ?_
  refine go_old fun O1 => ?_
  rw [hP0] at S1
  refine go_st (st' := [(.int hs)]) (by rw [hP0, hhs]) ?_
  refine go_istoreN C (pc' := 6) d14_5 (Ls' := #[(.val (.ref b)), (.val (.ref cf)), (.val .null), (.val (.int hs)), .unset, .unset, .unset, .unset]) rfl rfl ?_
  refine go_aloadN C (pc' := 7) d14_6 rfl rfl rfl ?_
  refine go_iloadN C (pc' := 8) d14_7 rfl rfl ?_
  refine go_callP C (pc' := 11) (y' := (⟨"com/example/invariant/invariant/check/ConfigurationStore", "slot", "(I)I"⟩ : MethodName)) (wd_91 hw) (wd_92 hw) (wd_93 hw) (wd_12 hw) (slotA1_met l Z a0 hw _ _ O1 hs T.1 ⟨S1.1, S1.2.1, S1.2.2.1, S1.2.2.2.1, S1.2.2.2.2.1, S1.2.2.2.2.2.1, S1.2.2.2.2.2.2.1, S1.2.2.2.2.2.2.2.1, S1.2.2.2.2.2.2.2.2.1, S1.2.2.2.2.2.2.2.2.2.1, S1.2.2.2.2.2.2.2.2.2.2.1, S1.2.2.2.2.2.2.2.2.2.2.2.1, S1.2.2.2.2.2.2.2.2.2.2.2.2.1, S1.2.2.2.2.2.2.2.2.2.2.2.2.2.1, S1.2.2.2.2.2.2.2.2.2.2.2.2.2.2.1, S1.2.2.2.2.2.2.2.2.2.2.2.2.2.2.2.1, S1.2.2.2.2.2.2.2.2.2.2.2.2.2.2.2.2.1, S1.2.2.2.2.2.2.2.2.2.2.2.2.2.2.2.2.2.1, S1.2.2.2.2.2.2.2.2.2.2.2.2.2.2.2.2.2.2.1, S1.2.2.2.2.2.2.2.2.2.2.2.2.2.2.2.2.2.2.2.1, S1.2.2.2.2.2.2.2.2.2.2.2.2.2.2.2.2.2.2.2.2.1, S1.2.2.2.2.2.2.2.2.2.2.2.2.2.2.2.2.2.2.2.2.2.1, S1.2.2.2.2.2.2.2.2.2.2.2.2.2.2.2.2.2.2.2.2.2.2⟩ (T.2 _ (and127 _).2)) (wd_94 hw) (wd_13 hw) (by decide) (by decide) (W := 0) (Nat.le_of_ble_eq_true rfl) (by decide) (by decide) (by decide) rfl S1.1 (argsL := [(.int hs)]) (rest := []) pd_0 rfl rfl rfl d14_8 rfl ?_
  rintro _ _ ⟨rfl, rfl⟩
  refine go_st (st' := [(.int (hs &&& (127 : Int32)))]) rfl ?_
  refine go_istore C (pc' := 13) d14_11 (Ls' := #[(.val (.ref b)), (.val (.ref cf)), (.val .null), (.val (.int hs)), (.val (.int (hs &&& (127 : Int32)))), .unset, .unset, .unset]) rfl rfl ?_
  refine go_aloadN C (pc' := 14) d14_13 rfl rfl rfl ?_
  refine gF C (pc' := 17) (wd_25 hw) S1.2.2.2.2.2.2.2.2.2.2.2.1 d14_14 rfl ?_
  refine go_iload C (pc' := 19) d14_17 rfl rfl ?_
  refine go_laget C (pc' := 20) S1.2.2.2.2.2.2.2.2.2.2.2.2.2.2.1 (and127 _).1 (i := _) rfl (T.2 _ (and127 _).2) d14_19 rfl ?_
  refine go_lconst C (pc' := 21) d14_20 (z := (0 : Int64)) (by decide) rfl ?_
  refine go_lcmp C (pc' := 22) d14_21 rfl ?_
  refine go_st (st' := [(.int (0 : Int32))]) (by rw [show (lcmpW (0 : Int64) (0 : Int64)) = (0 : Int32) from by decide]) ?_
  refine go_ifYes C (pc' := 36) d14_22 (by decide) (by decide) (by decide) ?_
  refine go_aloadN C (pc' := 37) d14_36 rfl rfl rfl ?_
  refine go_iloadN C (pc' := 38) d14_37 rfl rfl ?_
  refine go_aloadN C (pc' := 39) d14_38 rfl rfl rfl ?_
  refine go_callP C (pc' := 42) (y' := (⟨"com/example/invariant/invariant/check/ConfigurationStore", "holder", "(ILjava/util/function/IntPredicate;)I"⟩ : MethodName)) (wd_95 hw) (wd_96 hw) (wd_97 hw) (wd_12 hw) (holder1_met l Z a0 hw _ _ O1 hs T.1 ⟨S1.1, S1.2.1, S1.2.2.1, S1.2.2.2.1, S1.2.2.2.2.1, S1.2.2.2.2.2.1, S1.2.2.2.2.2.2.1, S1.2.2.2.2.2.2.2.1, S1.2.2.2.2.2.2.2.2.1, S1.2.2.2.2.2.2.2.2.2.1, S1.2.2.2.2.2.2.2.2.2.2.1, S1.2.2.2.2.2.2.2.2.2.2.2.1, S1.2.2.2.2.2.2.2.2.2.2.2.2.1, S1.2.2.2.2.2.2.2.2.2.2.2.2.2.1, S1.2.2.2.2.2.2.2.2.2.2.2.2.2.2.1, S1.2.2.2.2.2.2.2.2.2.2.2.2.2.2.2.1, S1.2.2.2.2.2.2.2.2.2.2.2.2.2.2.2.2.1, S1.2.2.2.2.2.2.2.2.2.2.2.2.2.2.2.2.2.1, S1.2.2.2.2.2.2.2.2.2.2.2.2.2.2.2.2.2.2.1, S1.2.2.2.2.2.2.2.2.2.2.2.2.2.2.2.2.2.2.2.1, S1.2.2.2.2.2.2.2.2.2.2.2.2.2.2.2.2.2.2.2.2.1, S1.2.2.2.2.2.2.2.2.2.2.2.2.2.2.2.2.2.2.2.2.2.1, S1.2.2.2.2.2.2.2.2.2.2.2.2.2.2.2.2.2.2.2.2.2.2⟩) (wd_98 hw) (wd_13 hw) (by decide) (by decide) (W := 0) (Nat.le_of_ble_eq_true rfl) (by decide) (by decide) (by decide) rfl S1.1 (argsL := [(.int hs), .null]) (rest := []) pd_6 rfl rfl rfl d14_39 rfl ?_
  rintro _ _ ⟨rfl, rfl⟩
  refine go_st (st' := [(.int (-1 : Int32))]) rfl ?_
  refine go_istore C (pc' := 44) d14_42 (Ls' := #[(.val (.ref b)), (.val (.ref cf)), (.val .null), (.val (.int hs)), (.val (.int (hs &&& (127 : Int32)))), (.val (.int (-1 : Int32))), .unset, .unset]) rfl rfl ?_
  refine go_iload C (pc' := 46) d14_44 rfl rfl ?_
  refine go_ifYes C (pc' := 52) d14_46 (by decide) (by decide) (by decide) ?_
  refine go_aloadN C (pc' := 53) d14_52 rfl rfl rfl ?_
  refine gF C (pc' := 56) (wd_99 hw) S1.2.2.2.2.2.2.2.2.2.2.1 d14_53 rfl ?_
  refine go_aloadN C (pc' := 57) d14_56 rfl rfl rfl ?_
  refine go_callV C (pc' := 60) (y' := (⟨"com/example/invariant/invariant/check/ConfigurationStore", "capacity", "()I"⟩ : MethodName)) (wd_101 hw) (wd_102 hw) (wd_104 hw) (wd_103 hw) (cap_met l Z a0 hw _ _ O1 b) (wd_105 hw) (wd_13 hw) (by decide) (by decide) (W := 1) (Nat.le_of_ble_eq_true rfl) (by decide) (by decide) (by decide) rfl S1.1 (argsL := []) (rest := [(.int (0 : Int32))]) pd_7 rfl rfl rfl d14_57 rfl ?_
  rintro _ _ ⟨rfl, rfl⟩
  refine go_st (st' := [(.int (536870912 : Int32)), (.int (0 : Int32))]) rfl ?_
  refine go_icmpYes C (pc' := 80) d14_60 (by decide) (by decide) (by decide) ?_
  refine go_aloadN C (pc' := 81) d14_80 rfl rfl rfl ?_
  refine gF C (pc' := 84) (wd_99 hw) S1.2.2.2.2.2.2.2.2.2.2.1 d14_81 rfl ?_
  refine go_aloadN C (pc' := 85) d14_84 rfl rfl rfl ?_
  refine gF C (pc' := 88) (wd_71 hw) S1.2.2.2.2.2.2.2.2.1 d14_85 rfl ?_
  refine go_iushr C (pc' := 89) d14_88 rfl ?_
  refine go_st (st' := [(.int (0 : Int32))]) (by rw [show (((0 : Int32)).toUInt32 >>> ((20 : Int32) &&& 31).toUInt32).toInt32 = (0 : Int32) from by decide]) ?_
  refine go_istore C (pc' := 91) d14_89 (Ls' := #[(.val (.ref b)), (.val (.ref cf)), (.val .null), (.val (.int hs)), (.val (.int (hs &&& (127 : Int32)))), (.val (.int (-1 : Int32))), (.val (.int (0 : Int32))), .unset]) rfl rfl ?_
  refine go_aloadN C (pc' := 92) d14_91 rfl rfl rfl ?_
  refine gF C (pc' := 95) (wd_99 hw) S1.2.2.2.2.2.2.2.2.2.2.1 d14_92 rfl ?_
  refine go_iconst C (pc' := 96) d14_95 (z := (1 : Int32)) (by decide) rfl ?_
  refine go_aloadN C (pc' := 97) d14_96 rfl rfl rfl ?_
  refine gF C (pc' := 100) (wd_71 hw) S1.2.2.2.2.2.2.2.2.1 d14_97 rfl ?_
  refine go_ishl C (pc' := 101) d14_100 rfl ?_
  refine go_st (st' := [(.int (1048576 : Int32)), (.int (0 : Int32))]) (by rw [show ((1 : Int32) <<< ((20 : Int32) &&& 31)) = (1048576 : Int32) from by decide]) ?_
  refine go_iconst C (pc' := 102) d14_101 (z := (1 : Int32)) (by decide) rfl ?_
  refine go_isub C (pc' := 103) d14_102 rfl ?_
  refine go_st (st' := [(.int (1048575 : Int32)), (.int (0 : Int32))]) (by rw [show ((1048576 : Int32) - (1 : Int32)) = (1048575 : Int32) from by decide]) ?_
  refine go_iand C (pc' := 104) d14_103 rfl ?_
  refine go_st (st' := [(.int (0 : Int32))]) (by rw [show ((0 : Int32) &&& (1048575 : Int32)) = (0 : Int32) from by decide]) ?_
  refine go_aloadN C (pc' := 105) d14_104 rfl rfl rfl ?_
  refine gF C (pc' := 108) (wd_64 hw) S1.2.2.2.2.1 d14_105 rfl ?_
  refine go_imul C (pc' := 109) d14_108 rfl ?_
  refine go_st (st' := [(.int (0 : Int32))]) (by rw [show ((0 : Int32) * (1 : Int32)) = (0 : Int32) from by decide]) ?_
  refine go_istore C (pc' := 111) d14_109 (Ls' := #[(.val (.ref b)), (.val (.ref cf)), (.val .null), (.val (.int hs)), (.val (.int (hs &&& (127 : Int32)))), (.val (.int (-1 : Int32))), (.val (.int (0 : Int32))), (.val (.int (0 : Int32)))]) rfl rfl ?_
  refine go_iload C (pc' := 113) d14_111 rfl rfl ?_
  refine go_aloadN C (pc' := 114) d14_113 rfl rfl rfl ?_
  refine gF C (pc' := 117) (wd_22 hw) S1.2.2.2.2.2.2.2.2.2.1 d14_114 rfl ?_
  refine go_alen C (pc' := 118) S1.2.2.2.2.2.2.2.2.2.2.2.2.2.1 (z := (1 : Int32)) rfl d14_117 rfl ?_
  refine go_icmpNo C (pc' := 121) d14_118 (by decide) rfl ?_
  refine go_aloadN C (pc' := 122) d14_121 rfl rfl rfl ?_
  refine gF C (pc' := 125) (wd_22 hw) S1.2.2.2.2.2.2.2.2.2.1 d14_122 rfl ?_
  refine go_iload C (pc' := 127) d14_125 rfl rfl ?_
  refine go_raget C (pc' := 128) S1.2.2.2.2.2.2.2.2.2.2.2.2.2.1 rfl (by decide) (i := 0) (by decide) rfl d14_127 rfl ?_
  refine go_ifnullYes C (pc' := 144) d14_128 (by decide) (by decide) ?_
  refine go_aloadN C (pc' := 145) d14_144 rfl rfl rfl ?_
  refine go_iload C (pc' := 147) d14_145 rfl rfl ?_
  refine go_iload C (pc' := 149) d14_147 rfl rfl ?_
  refine go_callP C (pc' := 152) (y' := (⟨"com/example/invariant/invariant/check/ConfigurationStore", "makeRoom", "(II)V"⟩ : MethodName)) (wd_107 hw) (wd_108 hw) (wd_109 hw) (wd_12 hw) (makeRoom1_met l Z a0 hw _ _ O1 ⟨S1.1, S1.2.1, S1.2.2.1, S1.2.2.2.1, S1.2.2.2.2.1, S1.2.2.2.2.2.1, S1.2.2.2.2.2.2.1, S1.2.2.2.2.2.2.2.1, S1.2.2.2.2.2.2.2.2.1, S1.2.2.2.2.2.2.2.2.2.1, S1.2.2.2.2.2.2.2.2.2.2.1, S1.2.2.2.2.2.2.2.2.2.2.2.1, S1.2.2.2.2.2.2.2.2.2.2.2.2.1, S1.2.2.2.2.2.2.2.2.2.2.2.2.2.1, S1.2.2.2.2.2.2.2.2.2.2.2.2.2.2.1, S1.2.2.2.2.2.2.2.2.2.2.2.2.2.2.2.1, S1.2.2.2.2.2.2.2.2.2.2.2.2.2.2.2.2.1, S1.2.2.2.2.2.2.2.2.2.2.2.2.2.2.2.2.2.1, S1.2.2.2.2.2.2.2.2.2.2.2.2.2.2.2.2.2.2.1, S1.2.2.2.2.2.2.2.2.2.2.2.2.2.2.2.2.2.2.2.1, S1.2.2.2.2.2.2.2.2.2.2.2.2.2.2.2.2.2.2.2.2.1, S1.2.2.2.2.2.2.2.2.2.2.2.2.2.2.2.2.2.2.2.2.2.1, S1.2.2.2.2.2.2.2.2.2.2.2.2.2.2.2.2.2.2.2.2.2.2⟩ o') (wd_110 hw) (wd_13 hw) (by decide) (by decide) (W := 0) (Nat.le_of_ble_eq_true rfl) (by decide) (by decide) (by decide) rfl S1.1 (argsL := [(.int (0 : Int32)), (.int (0 : Int32))]) (rest := []) pd_8 rfl rfl rfl d14_149 rfl ?_
  rintro _ h2 ⟨rfl, pg, kpg, qpg, qsz, S2, Apg, Kr2⟩
  refine go_st (st' := []) rfl ?_
  refine go_old fun O2 => ?_
  have szpg := Nat.le_trans Kp1.1 qsz
  refine go_aloadN C (pc' := 153) d14_152 rfl rfl rfl ?_
  refine gF C (pc' := 156) (wd_73 hw) S2.2.2.2.2.2.2.2.2.2.2.2.2.1 d14_153 rfl ?_
  refine go_iconst C (pc' := 157) d14_156 (z := (0 : Int32)) (by decide) rfl ?_
  refine go_aloadN C (pc' := 158) d14_157 rfl rfl rfl ?_
  refine gF C (pc' := 161) (wd_22 hw) S2.2.2.2.2.2.2.2.2.2.1 d14_158 rfl ?_
  refine go_iload C (pc' := 163) d14_161 rfl rfl ?_
  refine go_raget C (pc' := 164) S2.2.2.2.2.2.2.2.2.2.2.2.2.2.1 rfl (by decide) (i := 0) (by decide) rfl d14_163 rfl ?_
  refine go_iload C (pc' := 166) d14_164 rfl rfl ?_
  refine go_aloadN C (pc' := 167) d14_166 rfl rfl rfl ?_
  refine gF C (pc' := 170) (wd_64 hw) S2.2.2.2.2.1 d14_167 rfl ?_
  refine go_acopy C (pc' := 173) (wd_113 hw) (wd_61 hw) (wd_59 hw) (wd_60 hw) S2.2.2.2.2.2.2.2.2.2.2.2.2.2.2.2.2.2.2.2.2.2.1 Apg rfl (by simp [fits]) (by simp [fits]) (by simp) (by simp) (by decide) (i := 0) (by decide) (by decide) (j := 0) (by decide) (by decide) (q := 1) (by decide) (by simp) (by simp) (vs' := (.long q0 :: List.replicate 63 (.long (0 : Int64)))) rfl rfl d14_170 rfl (by omega) (by decide) (W := 0) (Nat.le_of_ble_eq_true rfl) (by decide) ?_
  intro h3 K3 A3
  refine go_old fun O3 => ?_
  refine go_aloadN C (pc' := 174) d14_173 rfl rfl rfl ?_
  refine go_dup C (pc' := 175) d14_174 rfl rfl ?_
  refine gF C (pc' := 178) (wd_99 hw) (S2.2.2.2.2.2.2.2.2.2.2.1.keep K3 (ninS (ne_i (by omega)) nin0)) d14_175 rfl ?_
  refine go_iconst C (pc' := 179) d14_178 (z := (1 : Int32)) (by decide) rfl ?_
  refine go_iadd C (pc' := 180) d14_179 rfl ?_
  refine go_st (st' := [(.int (1 : Int32)), (.ref b)]) (by rw [show ((0 : Int32) + (1 : Int32)) = (1 : Int32) from by decide]) ?_
  refine go_putF C (pc' := 183) (host := "") (Or.inl (wd_99 hw)) Via.refl (S2.2.2.2.2.2.2.2.2.2.2.1.keep K3 (ninS (ne_i (by omega)) nin0)) (S2.1.keep K3) (Or.inl (wd_100 hw)) (wd_12 hw) (ty := .int) (by decide) rfl rfl d14_180 rfl (by omega) ?_
  intro h4 W4 F4
  refine go_old fun O4 => ?_
  refine go_aloadN C (pc' := 184) d14_183 rfl rfl rfl ?_
  have fx5 := ((S2.2.2.2.2.2.2.2.2.2.2.2.1.keep K3 (ninS (ne_i (by omega)) nin0)).other W4 (Or.inr (sn_46 hw).symm))
  refine gF C (pc' := 187) (wd_25 hw) fx5 d14_184 rfl ?_
  refine go_iload C (pc' := 189) d14_187 rfl rfl ?_
  refine go_iloadN C (pc' := 190) d14_189 rfl rfl ?_
  refine go_i2l C (pc' := 191) d14_190 rfl ?_
  refine go_bipush C (pc' := 193) d14_191 (z := (32 : Int32)) (by decide) rfl ?_
  refine go_lshl C (pc' := 194) d14_193 rfl ?_
  refine go_aloadN C (pc' := 195) d14_194 rfl rfl rfl ?_
  refine gF C (pc' := 198) (wd_99 hw) F4 d14_195 rfl ?_
  refine go_i2l C (pc' := 199) d14_198 rfl ?_
  refine go_st (st' := [(.long (1 : Int64)), (.long ((hs).toInt64 <<< ((32 : Int32) &&& 0x3f).toInt64)), (.int (hs &&& (127 : Int32))), (.ref tb)]) (by rw [show ((1 : Int32)).toInt64 = (1 : Int64) from by decide]) ?_
  refine go_lor C (pc' := 200) d14_199 rfl ?_
  refine go_st (st' := [(.long (ent hs (1 : Int64))), (.int (hs &&& (127 : Int32))), (.ref tb)]) rfl ?_
  have fx6 := ((S2.2.2.2.2.2.2.2.2.2.2.2.2.2.2.1.keep K3 (ninS (ne_i (by omega)) nin0)).other W4 (ne_i (by omega)))
  refine go_laset C (pc' := 201) fx6 (and127 _).1 (i := _) rfl (by rw [T.1]; exact (and127 _).2) (vs' := (vt.set (hs &&& (127 : Int32)).toNatClampNeg (.long (ent hs (1 : Int64))))) rfl d14_200 rfl (by omega) ?_
  intro h7 W7 A7
  refine go_old fun O7 => ?_
  refine go_ldcLong C (pc' := 204) (wd_114 hw) d14_201 rfl ?_
  refine go_aloadN C (pc' := 205) d14_204 rfl rfl rfl ?_
  refine gF C (pc' := 208) (wd_99 hw) (F4.other W7 (Or.inl (ne_i (by omega)))) d14_205 rfl ?_
  refine go_i2l C (pc' := 209) d14_208 rfl ?_
  refine go_st (st' := [(.long (1 : Int64)), (.long (2 : Int64))]) (by rw [show ((1 : Int32)).toInt64 = (1 : Int64) from by decide]) ?_
  refine go_lmul C (pc' := 210) d14_209 rfl ?_
  refine go_st (st' := [(.long (2 : Int64))]) (by rw [show ((2 : Int64) * (1 : Int64)) = (2 : Int64) from by decide]) ?_
  refine go_aloadN C (pc' := 211) d14_210 rfl rfl rfl ?_
  refine gF C (pc' := 214) (wd_25 hw) (fx5.other W7 (Or.inl (ne_i (by omega)))) d14_211 rfl ?_
  refine go_alen C (pc' := 215) A7 (z := (128 : Int32)) (by rw [List.length_set, T.1]; rfl) d14_214 rfl ?_
  refine go_i2l C (pc' := 216) d14_215 rfl ?_
  refine go_st (st' := [(.long (128 : Int64)), (.long (2 : Int64))]) (by rw [show ((128 : Int32)).toInt64 = (128 : Int64) from by decide]) ?_
  refine go_lcmp C (pc' := 217) d14_216 rfl ?_
  refine go_st (st' := [(.int (-1 : Int32))]) (by rw [show (lcmpW (2 : Int64) (128 : Int64)) = (-1 : Int32) from by decide]) ?_
  refine go_ifYes C (pc' := 224) d14_217 (by decide) (by decide) (by decide) ?_
  refine go_aloadN C (pc' := 225) d14_224 rfl rfl rfl ?_
  refine gF C (pc' := 228) (wd_99 hw) (F4.other W7 (Or.inl (ne_i (by omega)))) d14_225 rfl ?_
  refine go_iconst C (pc' := 229) d14_228 (z := (1 : Int32)) (by decide) rfl ?_
  refine go_isub C (pc' := 230) d14_229 rfl ?_
  refine go_st (st' := [(.int (0 : Int32))]) (by rw [show ((1 : Int32) - (1 : Int32)) = (0 : Int32) from by decide]) ?_
  have fx8 := (((S2.2.1.keep K3 (ninS (ne_i (by omega)) nin0)).other W4 (Or.inr (sn_47 hw).symm)).other W7 (Or.inl (ne_i (by omega))))
  have fx9 := (((S2.2.2.1.keep K3 (ninS (ne_i (by omega)) nin0)).other W4 (Or.inr (sn_48 hw).symm)).other W7 (Or.inl (ne_i (by omega))))
  have fx10 := (((S2.2.2.2.1.keep K3 (ninS (ne_i (by omega)) nin0)).other W4 (Or.inr (sn_51 hw).symm)).other W7 (Or.inl (ne_i (by omega))))
  have fx11 := (((S2.2.2.2.2.1.keep K3 (ninS (ne_i (by omega)) nin0)).other W4 (Or.inr (sn_52 hw).symm)).other W7 (Or.inl (ne_i (by omega))))
  have fx12 := (((S2.2.2.2.2.2.1.keep K3 (ninS (ne_i (by omega)) nin0)).other W4 (Or.inr (sn_49 hw).symm)).other W7 (Or.inl (ne_i (by omega))))
  have fx13 := (((S2.2.2.2.2.2.2.1.keep K3 (ninS (ne_i (by omega)) nin0)).other W4 (Or.inr (sn_50 hw).symm)).other W7 (Or.inl (ne_i (by omega))))
  have fx14 := (((S2.2.2.2.2.2.2.2.1.keep K3 (ninS (ne_i (by omega)) nin0)).other W4 (Or.inr (sn_53 hw).symm)).other W7 (Or.inl (ne_i (by omega))))
  have fx15 := (((S2.2.2.2.2.2.2.2.2.1.keep K3 (ninS (ne_i (by omega)) nin0)).other W4 (Or.inr (sn_64 hw).symm)).other W7 (Or.inl (ne_i (by omega))))
  have fx16 := (((S2.2.2.2.2.2.2.2.2.2.1.keep K3 (ninS (ne_i (by omega)) nin0)).other W4 (Or.inr (sn_45 hw).symm)).other W7 (Or.inl (ne_i (by omega))))
  have fx17 := (((S2.2.2.2.2.2.2.2.2.2.2.2.2.1.keep K3 (ninS (ne_i (by omega)) nin0)).other W4 (Or.inr (sn_65 hw).symm)).other W7 (Or.inl (ne_i (by omega))))
  have fx18 := (((S2.2.2.2.2.2.2.2.2.2.2.2.2.2.1.keep K3 (ninS (ne_i (by omega)) nin0)).other W4 (ne_i (by omega))).other W7 (ne_i (by omega)))
  have fx19 := (((S2.2.2.2.2.2.2.2.2.2.2.2.2.2.2.2.1.keep K3 (ninS (ne_i (by omega)) nin0)).other W4 (ne_i (by omega))).other W7 (ne_i (by omega)))
  have fx20 := (((S2.2.2.2.2.2.2.2.2.2.2.2.2.2.2.2.2.1.keep K3 (ninS (ne_i (by omega)) nin0)).other W4 (ne_i (by omega))).other W7 (ne_i (by omega)))
  have fx21 := (((S2.2.2.2.2.2.2.2.2.2.2.2.2.2.2.2.2.2.1.keep K3 (ninS (ne_i (by omega)) nin0)).other W4 (ne_i (by omega))).other W7 (ne_i (by omega)))
  have fx22 := (((S2.2.2.2.2.2.2.2.2.2.2.2.2.2.2.2.2.2.2.1.keep K3 (ninS (ne_i (by omega)) nin0)).other W4 (ne_i (by omega))).other W7 (ne_i (by omega)))
  have fx23 := (((S2.2.2.2.2.2.2.2.2.2.2.2.2.2.2.2.2.2.2.2.1.keep K3 (ninS (ne_i (by omega)) nin0)).other W4 (ne_i (by omega))).other W7 (ne_i (by omega)))
  have fx24 := (((S2.2.2.2.2.2.2.2.2.2.2.2.2.2.2.2.2.2.2.2.2.1.keep K3 (ninS (ne_i (by omega)) nin0)).other W4 (ne_i (by omega))).other W7 (ne_i (by omega)))
  have fx25 := (((S2.2.2.2.2.2.2.2.2.2.2.2.2.2.2.2.2.2.2.2.2.2.1.keep K3 (ninS (ne_i (by omega)) nin0)).other W4 (ne_i (by omega))).other W7 (ne_i (by omega)))
  exact go_retI C d14_230 (by decide) (by decide) ⟨rfl, pg, kpg, _, T1.of T, qpg, ⟨(((S2.1.keep K3).wr W4).wr W7), fx8, fx9, fx10, fx11, fx12, fx13, fx14, fx15, fx16, (F4.other W7 (Or.inl (ne_i (by omega)))), (fx5.other W7 (Or.inl (ne_i (by omega)))), fx17, fx18, A7, fx19, fx20, fx21, fx22, fx23, fx24, fx25, S2.2.2.2.2.2.2.2.2.2.2.2.2.2.2.2.2.2.2.2.2.2.2⟩, ((A3.other W4 (ne_i (by omega))).other W7 (ne_i (by omega))), ((((((Keep.refl _ [b, pgs, tb, pk]).trans Kp1 (allS (Or.inl (by simp)) all0)).trans Kr2 (allS (Or.inl (by simp)) all0)).trans K3 (allS (Or.inr szpg) all0)).wr W4 (Or.inl (by simp))).wr W7 (Or.inl (by simp)))⟩
set_option maxRecDepth 65536 in
set_option maxHeartbeats 4000000 in
theorem add1_0_met (l : Launch) (Z : State) (a0 : Array Value) (hw : ∀ d ∈ tables_1, d.before a0 Z = true) (n0 : Nat) (h : Heap) (O : Old Z n0 h)  {b pgs tb lo hi sh mk fi km pk : Nat} {kpgs ktb klo khi ksh kmk kfi kkm kpk : ClassId} {l0 u0 l1 u1 l2 u2 l3 u3 s1 s2 s3 : Int32} {m0 m1 m2 m3 KM0 : Int64} {vt : List Value} {hs : Int32} {p0 q0 : Int64} (S : Sto Z h b pgs tb lo hi sh mk fi km pk kpgs ktb klo khi ksh kmk kfi kkm kpk (1 : Int32) (20 : Int32) (0 : Int32) [.null] vt [(.int l0), (.int l1), (.int l2), (.int l3)] [(.int u0), (.int u1), (.int u2), (.int u3)] [(.int (0 : Int32)), (.int s1), (.int s2), (.int s3)] [(.long m0), (.long m1), (.long m2), (.long m3)] [(.int (0 : Int32)), (.int (4 : Int32))] [(.long KM0)] [(.long p0)]) (o : Ord n0 b pgs tb lo hi sh mk fi km pk) {cf : Nat} {kcf : ClassId} {c0 c1 c2 c3 : Int32} (Acf : Ar Z h cf .int kcf [(.int c0), (.int c1), (.int c2), (.int c3)]) (qcf : cf < b) (hl0 : ¬ c0 < l0) (hu0 : ¬ u0 < c0) (hl1 : ¬ c1 < l1) (hu1 : ¬ u1 < c1) (hl2 : ¬ c2 < l2) (hu2 : ¬ u2 < c2) (hl3 : ¬ c3 < l3) (hu3 : ¬ u3 < c3) (hP0 : (((((0 : Int64) ||| (pt c0 l0 (0 : Int32))) ||| (pt c1 l1 s1)) ||| (pt c2 l2 s2)) ||| (pt c3 l3 s3)) = q0) (hhs : (hfin (hst (0 : Int64) q0 KM0)) = hs) (T : T0 vt) :
    Met l Z n0 (⟨"com/example/invariant/invariant/check/ConfigurationStore", "add", "([I)I"⟩ : MethodName) prog_52_method_7_code 2 (some .int) [] ({ frames := 3, cells := 1, slots := 64, locals := 59 } : Room) #[(.ref b), (.ref cf)] h (fun v h' => v = some (.int (0 : Int32)) ∧ ∃ (pg : Nat) (kpg : ClassId) (vt' : List Value), T1 vt' hs ∧ pk < pg ∧ Sto Z h' b pgs tb lo hi sh mk fi km pk kpgs ktb klo khi ksh kmk kfi kkm kpk (1 : Int32) (20 : Int32) (1 : Int32) [(.ref pg)] vt' [(.int l0), (.int l1), (.int l2), (.int l3)] [(.int u0), (.int u1), (.int u2), (.int u3)] [(.int (0 : Int32)), (.int s1), (.int s2), (.int s3)] [(.long m0), (.long m1), (.long m2), (.long m3)] [(.int (0 : Int32)), (.int (4 : Int32))] [(.long KM0)] [(.long q0)] ∧ Ar Z h' pg .long kpg (.long q0 :: List.replicate 63 (.long (0 : Int64))) ∧ Keep h h' [b, pgs, tb, pk]) := by
  refine met_of (Ls := #[(.val (.ref b)), (.val (.ref cf))]) (by decide +kernel) (fun m => by first | (simp [entryFrame, mkF, argsToLocals, Value.category]; done) | rfl) O ?_
  intro p e s m below meth cd C
  refine go_aloadN C (pc' := 1) d15_0 rfl rfl rfl ?_
  refine go_aloadN C (pc' := 2) d15_1 rfl rfl rfl ?_
  refine go_aconstNull C (pc' := 3) d15_2 rfl ?_
  refine go_callV C (pc' := 6) (y' := (⟨"com/example/invariant/invariant/check/ConfigurationStore", "add", "([ILjava/util/function/IntPredicate;)I"⟩ : MethodName)) (wd_80 hw) (wd_81 hw) (wd_83 hw) (wd_82 hw) (add2_1_0_met l Z a0 hw _ _ O S o Acf qcf hl0 hu0 hl1 hu1 hl2 hu2 hl3 hu3 hP0 hhs T) (wd_84 hw) (wd_13 hw) (by decide) (by decide) (W := 0) (Nat.le_of_ble_eq_true rfl) (by decide) (by decide) (by decide) rfl S.1 (argsL := [(.ref cf), .null]) (rest := []) pd_9 rfl rfl rfl d15_3 rfl ?_
  rintro _ h1 ⟨rfl, hq⟩
  refine go_st (st' := [(.int (0 : Int32))]) rfl ?_
  exact go_retI C d15_6 (by decide) (by decide) ⟨rfl, hq⟩
set_option maxRecDepth 65536 in
set_option maxHeartbeats 4000000 in
theorem add2_1_1_met (l : Launch) (Z : State) (a0 : Array Value) (hw : ∀ d ∈ tables_1, d.before a0 Z = true) (n0 : Nat) (h : Heap) (O : Old Z n0 h)  {b pgs tb lo hi sh mk fi km pk : Nat} {kpgs ktb klo khi ksh kmk kfi kkm kpk : ClassId} {l0 u0 l1 u1 l2 u2 l3 u3 s1 s2 s3 : Int32} {m0 m1 m2 m3 KM0 : Int64} {vt : List Value} {hs g : Int32} {p0 q0 e0 : Int64} {pg : Nat} {kpg : ClassId} (S : Sto Z h b pgs tb lo hi sh mk fi km pk kpgs ktb klo khi ksh kmk kfi kkm kpk (1 : Int32) (20 : Int32) (1 : Int32) [(.ref pg)] vt [(.int l0), (.int l1), (.int l2), (.int l3)] [(.int u0), (.int u1), (.int u2), (.int u3)] [(.int (0 : Int32)), (.int s1), (.int s2), (.int s3)] [(.long m0), (.long m1), (.long m2), (.long m3)] [(.int (0 : Int32)), (.int (4 : Int32))] [(.long KM0)] [(.long p0)]) (o : Ord n0 b pgs tb lo hi sh mk fi km pk) {cf : Nat} {kcf : ClassId} {c0 c1 c2 c3 : Int32} (Acf : Ar Z h cf .int kcf [(.int c0), (.int c1), (.int c2), (.int c3)]) (qcf : cf < b) (hl0 : ¬ c0 < l0) (hu0 : ¬ u0 < c0) (hl1 : ¬ c1 < l1) (hu1 : ¬ u1 < c1) (hl2 : ¬ c2 < l2) (hu2 : ¬ u2 < c2) (hl3 : ¬ c3 < l3) (hu3 : ¬ u3 < c3) (hP0 : (((((0 : Int64) ||| (pt c0 l0 (0 : Int32))) ||| (pt c1 l1 s1)) ||| (pt c2 l2 s2)) ||| (pt c3 l3 s3)) = q0) (hhs : (hfin (hst (0 : Int64) q0 KM0)) = hs) (T : T1 vt g) (hg : (hfin (hst (0 : Int64) e0 KM0)) = g) (qpg : pk < pg) (Apg : Ar Z h pg .long kpg (.long e0 :: List.replicate 63 (.long (0 : Int64)))) :
    Met l Z n0 (⟨"com/example/invariant/invariant/check/ConfigurationStore", "add", "([ILjava/util/function/IntPredicate;)I"⟩ : MethodName) prog_52_method_8_code 8 (some .int) [] ({ frames := 2, cells := 0, slots := 0, locals := 40 } : Room) #[(.ref b), (.ref cf), .null] h (fun v h' => ∃ (r : Int32) (sz' : Int32) (vt' vg : List Value), v = some (.int r) ∧ (r = 0 ∧ (q0 = e0) ∧ vg = (.long e0 :: List.replicate 63 (.long (0 : Int64))) ∨ r = 1 ∧ ¬ (q0 = e0) ∧ vg = (.long e0 :: .long q0 :: List.replicate 62 (.long (0 : Int64)))) ∧ Sto Z h' b pgs tb lo hi sh mk fi km pk kpgs ktb klo khi ksh kmk kfi kkm kpk (1 : Int32) (20 : Int32) sz' [(.ref pg)] vt' [(.int l0), (.int l1), (.int l2), (.int l3)] [(.int u0), (.int u1), (.int u2), (.int u3)] [(.int (0 : Int32)), (.int s1), (.int s2), (.int s3)] [(.long m0), (.long m1), (.long m2), (.long m3)] [(.int (0 : Int32)), (.int (4 : Int32))] [(.long KM0)] [(.long q0)] ∧ Ar Z h' pg .long kpg vg ∧ Keep h h' [b, tb, pk, pg]) := by
  refine met_of (Ls := #[(.val (.ref b)), (.val (.ref cf)), (.val .null), .unset, .unset, .unset, .unset, .unset]) (by decide +kernel) (fun m => by first | (simp [entryFrame, mkF, argsToLocals, Value.category]; done) | rfl) O ?_
  intro p e s m below meth cd C
  have o' := o
  obtain ⟨o0, o1, o2, o3, o4, o5, o6, o7, o8, o9⟩ := o
  refine go_aloadN C (pc' := 1) d14_0 rfl rfl rfl ?_
  refine go_aloadN C (pc' := 2) d14_1 rfl rfl rfl ?_
  refine go_callP C (pc' := 5) (y' := (⟨"com/example/invariant/invariant/check/ConfigurationStore", "pack", "([I)I"⟩ : MethodName)) (wd_85 hw) (wd_86 hw) (wd_87 hw) (wd_12 hw) (pack1_met l Z a0 hw _ _ O S o' Acf qcf hl0 hu0 hl1 hu1 hl2 hu2 hl3 hu3) (wd_88 hw) (wd_13 hw) (by decide) (by decide) (W := 0) (Nat.le_of_ble_eq_true rfl) (by decide) (by decide) (by decide) rfl S.1 (argsL := [(.ref cf)]) (rest := []) pd_5 rfl rfl rfl d14_2 rfl ?_
  rintro _ h1 ⟨rfl, S1, Kp1⟩
  refine go_st (st' := [(.int (hfin (hst (0 : Int64) (((((0 : Int64) ||| (pt c0 l0 (0 : Int32))) ||| (pt c1 l1 s1)) ||| (pt c2 l2 s2)) ||| (pt c3 l3 s3)) KM0)))]) rfl ?_
  refine go_old fun O1 => ?_
  rw [hP0] at S1
  refine go_st (st' := [(.int hs)]) (by rw [hP0, hhs]) ?_
  refine go_istoreN C (pc' := 6) d14_5 (Ls' := #[(.val (.ref b)), (.val (.ref cf)), (.val .null), (.val (.int hs)), .unset, .unset, .unset, .unset]) rfl rfl ?_
  refine go_aloadN C (pc' := 7) d14_6 rfl rfl rfl ?_
  refine go_iloadN C (pc' := 8) d14_7 rfl rfl ?_
  by_cases hq : (hs &&& (127 : Int32)).toNatClampNeg = (g &&& (127 : Int32)).toNatClampNeg
  · refine go_callP C (pc' := 11) (y' := (⟨"com/example/invariant/invariant/check/ConfigurationStore", "slot", "(I)I"⟩ : MethodName)) (wd_91 hw) (wd_92 hw) (wd_93 hw) (wd_12 hw) (slotB1_met l Z a0 hw _ _ O1 hs T.1 ⟨S1.1, S1.2.1, S1.2.2.1, S1.2.2.2.1, S1.2.2.2.2.1, S1.2.2.2.2.2.1, S1.2.2.2.2.2.2.1, S1.2.2.2.2.2.2.2.1, S1.2.2.2.2.2.2.2.2.1, S1.2.2.2.2.2.2.2.2.2.1, S1.2.2.2.2.2.2.2.2.2.2.1, S1.2.2.2.2.2.2.2.2.2.2.2.1, S1.2.2.2.2.2.2.2.2.2.2.2.2.1, S1.2.2.2.2.2.2.2.2.2.2.2.2.2.1, S1.2.2.2.2.2.2.2.2.2.2.2.2.2.2.1, S1.2.2.2.2.2.2.2.2.2.2.2.2.2.2.2.1, S1.2.2.2.2.2.2.2.2.2.2.2.2.2.2.2.2.1, S1.2.2.2.2.2.2.2.2.2.2.2.2.2.2.2.2.2.1, S1.2.2.2.2.2.2.2.2.2.2.2.2.2.2.2.2.2.2.1, S1.2.2.2.2.2.2.2.2.2.2.2.2.2.2.2.2.2.2.2.1, S1.2.2.2.2.2.2.2.2.2.2.2.2.2.2.2.2.2.2.2.2.1, S1.2.2.2.2.2.2.2.2.2.2.2.2.2.2.2.2.2.2.2.2.2.1, S1.2.2.2.2.2.2.2.2.2.2.2.2.2.2.2.2.2.2.2.2.2.2⟩ (Apg.keep Kp1 (ninS (ne_i (by omega)) nin0)) (ent_num g) (ent_ne g) (hq ▸ T.2.2) (T.2.1 _ (and127 _).2 (hq ▸ next_ne hs))) (wd_94 hw) (wd_13 hw) (by decide) (by decide) (W := 0) (Nat.le_of_ble_eq_true rfl) (by decide) (by decide) (by decide) rfl S1.1 (argsL := [(.int hs)]) (rest := []) pd_0 rfl rfl rfl d14_8 rfl ?_
    rintro _ _ ⟨r, rfl, hr, rfl⟩
    refine go_st (st' := [(.int r)]) rfl ?_
    rcases hr with ⟨rfl, hr⟩ | ⟨rfl, hr⟩
    · refine go_istore C (pc' := 13) d14_11 (Ls' := #[(.val (.ref b)), (.val (.ref cf)), (.val .null), (.val (.int hs)), (.val (.int (hs &&& (127 : Int32)))), .unset, .unset, .unset]) rfl rfl ?_
      refine go_aloadN C (pc' := 14) d14_13 rfl rfl rfl ?_
      refine gF C (pc' := 17) (wd_25 hw) S1.2.2.2.2.2.2.2.2.2.2.2.1 d14_14 rfl ?_
      refine go_iload C (pc' := 19) d14_17 rfl rfl ?_
      refine go_laget C (pc' := 20) S1.2.2.2.2.2.2.2.2.2.2.2.2.2.2.1 (and127 _).1 (i := _) rfl (hq ▸ T.2.2) d14_19 rfl ?_
      refine go_lconst C (pc' := 21) d14_20 (z := (0 : Int64)) (by decide) rfl ?_
      refine go_lcmp C (pc' := 22) d14_21 rfl ?_
      refine go_ifNo C (pc' := 25) d14_22 ((if0 _ _).trans (feq (fun z => ent_ne g ((lw_eq _ _).mp z))).1) rfl ?_
      refine go_aloadN C (pc' := 26) d14_25 rfl rfl rfl ?_
      refine gF C (pc' := 29) (wd_25 hw) S1.2.2.2.2.2.2.2.2.2.2.2.1 d14_26 rfl ?_
      refine go_iload C (pc' := 31) d14_29 rfl rfl ?_
      refine go_laget C (pc' := 32) S1.2.2.2.2.2.2.2.2.2.2.2.2.2.2.1 (and127 _).1 (i := _) rfl (hq ▸ T.2.2) d14_31 rfl ?_
      refine go_l2i C (pc' := 33) d14_32 rfl ?_
      refine go_iconst C (pc' := 34) d14_33 (z := (1 : Int32)) (by decide) rfl ?_
      refine go_isub C (pc' := 35) d14_34 rfl ?_
      refine go_st (st' := [(.int (0 : Int32))]) (by rw [ent_num g]) ?_
      exact go_retI C d14_35 (by decide) (by decide) ⟨_, _, _, _, rfl, Or.inl ⟨rfl, hr.2.symm, rfl⟩, ⟨S1.1, S1.2.1, S1.2.2.1, S1.2.2.2.1, S1.2.2.2.2.1, S1.2.2.2.2.2.1, S1.2.2.2.2.2.2.1, S1.2.2.2.2.2.2.2.1, S1.2.2.2.2.2.2.2.2.1, S1.2.2.2.2.2.2.2.2.2.1, S1.2.2.2.2.2.2.2.2.2.2.1, S1.2.2.2.2.2.2.2.2.2.2.2.1, S1.2.2.2.2.2.2.2.2.2.2.2.2.1, S1.2.2.2.2.2.2.2.2.2.2.2.2.2.1, S1.2.2.2.2.2.2.2.2.2.2.2.2.2.2.1, S1.2.2.2.2.2.2.2.2.2.2.2.2.2.2.2.1, S1.2.2.2.2.2.2.2.2.2.2.2.2.2.2.2.2.1, S1.2.2.2.2.2.2.2.2.2.2.2.2.2.2.2.2.2.1, S1.2.2.2.2.2.2.2.2.2.2.2.2.2.2.2.2.2.2.1, S1.2.2.2.2.2.2.2.2.2.2.2.2.2.2.2.2.2.2.2.1, S1.2.2.2.2.2.2.2.2.2.2.2.2.2.2.2.2.2.2.2.2.1, S1.2.2.2.2.2.2.2.2.2.2.2.2.2.2.2.2.2.2.2.2.2.1, S1.2.2.2.2.2.2.2.2.2.2.2.2.2.2.2.2.2.2.2.2.2.2⟩, (Apg.keep Kp1 (ninS (ne_i (by omega)) nin0)), ((Keep.refl _ [b, tb, pk, pg]).trans Kp1 (allS (Or.inl (by simp)) all0))⟩
    · refine go_istore C (pc' := 13) d14_11 (Ls' := #[(.val (.ref b)), (.val (.ref cf)), (.val .null), (.val (.int hs)), (.val (.int (((hs &&& (127 : Int32)) + (1 : Int32)) &&& (127 : Int32)))), .unset, .unset, .unset]) rfl rfl ?_
      refine go_aloadN C (pc' := 14) d14_13 rfl rfl rfl ?_
      refine gF C (pc' := 17) (wd_25 hw) S1.2.2.2.2.2.2.2.2.2.2.2.1 d14_14 rfl ?_
      refine go_iload C (pc' := 19) d14_17 rfl rfl ?_
      refine go_laget C (pc' := 20) S1.2.2.2.2.2.2.2.2.2.2.2.2.2.2.1 (and127 _).1 (i := _) rfl (T.2.1 _ (and127 _).2 (hq ▸ next_ne hs)) d14_19 rfl ?_
      refine go_lconst C (pc' := 21) d14_20 (z := (0 : Int64)) (by decide) rfl ?_
      refine go_lcmp C (pc' := 22) d14_21 rfl ?_
      refine go_st (st' := [(.int (0 : Int32))]) (by rw [show (lcmpW (0 : Int64) (0 : Int64)) = (0 : Int32) from by decide]) ?_
      refine go_ifYes C (pc' := 36) d14_22 (by decide) (by decide) (by decide) ?_
      refine go_aloadN C (pc' := 37) d14_36 rfl rfl rfl ?_
      refine go_iloadN C (pc' := 38) d14_37 rfl rfl ?_
      refine go_aloadN C (pc' := 39) d14_38 rfl rfl rfl ?_
      refine go_callP C (pc' := 42) (y' := (⟨"com/example/invariant/invariant/check/ConfigurationStore", "holder", "(ILjava/util/function/IntPredicate;)I"⟩ : MethodName)) (wd_95 hw) (wd_96 hw) (wd_97 hw) (wd_12 hw) (holder1_met l Z a0 hw _ _ O1 hs T.1 ⟨S1.1, S1.2.1, S1.2.2.1, S1.2.2.2.1, S1.2.2.2.2.1, S1.2.2.2.2.2.1, S1.2.2.2.2.2.2.1, S1.2.2.2.2.2.2.2.1, S1.2.2.2.2.2.2.2.2.1, S1.2.2.2.2.2.2.2.2.2.1, S1.2.2.2.2.2.2.2.2.2.2.1, S1.2.2.2.2.2.2.2.2.2.2.2.1, S1.2.2.2.2.2.2.2.2.2.2.2.2.1, S1.2.2.2.2.2.2.2.2.2.2.2.2.2.1, S1.2.2.2.2.2.2.2.2.2.2.2.2.2.2.1, S1.2.2.2.2.2.2.2.2.2.2.2.2.2.2.2.1, S1.2.2.2.2.2.2.2.2.2.2.2.2.2.2.2.2.1, S1.2.2.2.2.2.2.2.2.2.2.2.2.2.2.2.2.2.1, S1.2.2.2.2.2.2.2.2.2.2.2.2.2.2.2.2.2.2.1, S1.2.2.2.2.2.2.2.2.2.2.2.2.2.2.2.2.2.2.2.1, S1.2.2.2.2.2.2.2.2.2.2.2.2.2.2.2.2.2.2.2.2.1, S1.2.2.2.2.2.2.2.2.2.2.2.2.2.2.2.2.2.2.2.2.2.1, S1.2.2.2.2.2.2.2.2.2.2.2.2.2.2.2.2.2.2.2.2.2.2⟩) (wd_98 hw) (wd_13 hw) (by decide) (by decide) (W := 0) (Nat.le_of_ble_eq_true rfl) (by decide) (by decide) (by decide) rfl S1.1 (argsL := [(.int hs), .null]) (rest := []) pd_6 rfl rfl rfl d14_39 rfl ?_
      rintro _ _ ⟨rfl, rfl⟩
      refine go_st (st' := [(.int (-1 : Int32))]) rfl ?_
      refine go_istore C (pc' := 44) d14_42 (Ls' := #[(.val (.ref b)), (.val (.ref cf)), (.val .null), (.val (.int hs)), (.val (.int (((hs &&& (127 : Int32)) + (1 : Int32)) &&& (127 : Int32)))), (.val (.int (-1 : Int32))), .unset, .unset]) rfl rfl ?_
      refine go_iload C (pc' := 46) d14_44 rfl rfl ?_
      refine go_ifYes C (pc' := 52) d14_46 (by decide) (by decide) (by decide) ?_
      refine go_aloadN C (pc' := 53) d14_52 rfl rfl rfl ?_
      refine gF C (pc' := 56) (wd_99 hw) S1.2.2.2.2.2.2.2.2.2.2.1 d14_53 rfl ?_
      refine go_aloadN C (pc' := 57) d14_56 rfl rfl rfl ?_
      refine go_callV C (pc' := 60) (y' := (⟨"com/example/invariant/invariant/check/ConfigurationStore", "capacity", "()I"⟩ : MethodName)) (wd_101 hw) (wd_102 hw) (wd_104 hw) (wd_103 hw) (cap_met l Z a0 hw _ _ O1 b) (wd_105 hw) (wd_13 hw) (by decide) (by decide) (W := 1) (Nat.le_of_ble_eq_true rfl) (by decide) (by decide) (by decide) rfl S1.1 (argsL := []) (rest := [(.int (1 : Int32))]) pd_7 rfl rfl rfl d14_57 rfl ?_
      rintro _ _ ⟨rfl, rfl⟩
      refine go_st (st' := [(.int (536870912 : Int32)), (.int (1 : Int32))]) rfl ?_
      refine go_icmpYes C (pc' := 80) d14_60 (by decide) (by decide) (by decide) ?_
      refine go_aloadN C (pc' := 81) d14_80 rfl rfl rfl ?_
      refine gF C (pc' := 84) (wd_99 hw) S1.2.2.2.2.2.2.2.2.2.2.1 d14_81 rfl ?_
      refine go_aloadN C (pc' := 85) d14_84 rfl rfl rfl ?_
      refine gF C (pc' := 88) (wd_71 hw) S1.2.2.2.2.2.2.2.2.1 d14_85 rfl ?_
      refine go_iushr C (pc' := 89) d14_88 rfl ?_
      refine go_st (st' := [(.int (0 : Int32))]) (by rw [show (((1 : Int32)).toUInt32 >>> ((20 : Int32) &&& 31).toUInt32).toInt32 = (0 : Int32) from by decide]) ?_
      refine go_istore C (pc' := 91) d14_89 (Ls' := #[(.val (.ref b)), (.val (.ref cf)), (.val .null), (.val (.int hs)), (.val (.int (((hs &&& (127 : Int32)) + (1 : Int32)) &&& (127 : Int32)))), (.val (.int (-1 : Int32))), (.val (.int (0 : Int32))), .unset]) rfl rfl ?_
      refine go_aloadN C (pc' := 92) d14_91 rfl rfl rfl ?_
      refine gF C (pc' := 95) (wd_99 hw) S1.2.2.2.2.2.2.2.2.2.2.1 d14_92 rfl ?_
      refine go_iconst C (pc' := 96) d14_95 (z := (1 : Int32)) (by decide) rfl ?_
      refine go_aloadN C (pc' := 97) d14_96 rfl rfl rfl ?_
      refine gF C (pc' := 100) (wd_71 hw) S1.2.2.2.2.2.2.2.2.1 d14_97 rfl ?_
      refine go_ishl C (pc' := 101) d14_100 rfl ?_
      refine go_st (st' := [(.int (1048576 : Int32)), (.int (1 : Int32))]) (by rw [show ((1 : Int32) <<< ((20 : Int32) &&& 31)) = (1048576 : Int32) from by decide]) ?_
      refine go_iconst C (pc' := 102) d14_101 (z := (1 : Int32)) (by decide) rfl ?_
      refine go_isub C (pc' := 103) d14_102 rfl ?_
      refine go_st (st' := [(.int (1048575 : Int32)), (.int (1 : Int32))]) (by rw [show ((1048576 : Int32) - (1 : Int32)) = (1048575 : Int32) from by decide]) ?_
      refine go_iand C (pc' := 104) d14_103 rfl ?_
      refine go_st (st' := [(.int (1 : Int32))]) (by rw [show ((1 : Int32) &&& (1048575 : Int32)) = (1 : Int32) from by decide]) ?_
      refine go_aloadN C (pc' := 105) d14_104 rfl rfl rfl ?_
      refine gF C (pc' := 108) (wd_64 hw) S1.2.2.2.2.1 d14_105 rfl ?_
      refine go_imul C (pc' := 109) d14_108 rfl ?_
      refine go_st (st' := [(.int (1 : Int32))]) (by rw [show ((1 : Int32) * (1 : Int32)) = (1 : Int32) from by decide]) ?_
      refine go_istore C (pc' := 111) d14_109 (Ls' := #[(.val (.ref b)), (.val (.ref cf)), (.val .null), (.val (.int hs)), (.val (.int (((hs &&& (127 : Int32)) + (1 : Int32)) &&& (127 : Int32)))), (.val (.int (-1 : Int32))), (.val (.int (0 : Int32))), (.val (.int (1 : Int32)))]) rfl rfl ?_
      refine go_iload C (pc' := 113) d14_111 rfl rfl ?_
      refine go_aloadN C (pc' := 114) d14_113 rfl rfl rfl ?_
      refine gF C (pc' := 117) (wd_22 hw) S1.2.2.2.2.2.2.2.2.2.1 d14_114 rfl ?_
      refine go_alen C (pc' := 118) S1.2.2.2.2.2.2.2.2.2.2.2.2.2.1 (z := (1 : Int32)) rfl d14_117 rfl ?_
      refine go_icmpNo C (pc' := 121) d14_118 (by decide) rfl ?_
      refine go_aloadN C (pc' := 122) d14_121 rfl rfl rfl ?_
      refine gF C (pc' := 125) (wd_22 hw) S1.2.2.2.2.2.2.2.2.2.1 d14_122 rfl ?_
      refine go_iload C (pc' := 127) d14_125 rfl rfl ?_
      refine go_raget C (pc' := 128) S1.2.2.2.2.2.2.2.2.2.2.2.2.2.1 rfl (by decide) (i := 0) (by decide) rfl d14_127 rfl ?_
      refine go_ifnullNo C (pc' := 131) d14_128 rfl ?_
      refine go_aloadN C (pc' := 132) d14_131 rfl rfl rfl ?_
      refine gF C (pc' := 135) (wd_22 hw) S1.2.2.2.2.2.2.2.2.2.1 d14_132 rfl ?_
      refine go_iload C (pc' := 137) d14_135 rfl rfl ?_
      refine go_raget C (pc' := 138) S1.2.2.2.2.2.2.2.2.2.2.2.2.2.1 rfl (by decide) (i := 0) (by decide) rfl d14_137 rfl ?_
      refine go_alen C (pc' := 139) (Apg.keep Kp1 (ninS (ne_i (by omega)) nin0)) (z := (64 : Int32)) (by rfl) d14_138 rfl ?_
      refine go_iload C (pc' := 141) d14_139 rfl rfl ?_
      refine go_icmpYes C (pc' := 152) d14_141 (by decide) (by decide) (by decide) ?_
      refine go_aloadN C (pc' := 153) d14_152 rfl rfl rfl ?_
      refine gF C (pc' := 156) (wd_73 hw) S1.2.2.2.2.2.2.2.2.2.2.2.2.1 d14_153 rfl ?_
      refine go_iconst C (pc' := 157) d14_156 (z := (0 : Int32)) (by decide) rfl ?_
      refine go_aloadN C (pc' := 158) d14_157 rfl rfl rfl ?_
      refine gF C (pc' := 161) (wd_22 hw) S1.2.2.2.2.2.2.2.2.2.1 d14_158 rfl ?_
      refine go_iload C (pc' := 163) d14_161 rfl rfl ?_
      refine go_raget C (pc' := 164) S1.2.2.2.2.2.2.2.2.2.2.2.2.2.1 rfl (by decide) (i := 0) (by decide) rfl d14_163 rfl ?_
      refine go_iload C (pc' := 166) d14_164 rfl rfl ?_
      refine go_aloadN C (pc' := 167) d14_166 rfl rfl rfl ?_
      refine gF C (pc' := 170) (wd_64 hw) S1.2.2.2.2.1 d14_167 rfl ?_
      refine go_acopy C (pc' := 173) (wd_113 hw) (wd_61 hw) (wd_59 hw) (wd_60 hw) S1.2.2.2.2.2.2.2.2.2.2.2.2.2.2.2.2.2.2.2.2.2.1 (Apg.keep Kp1 (ninS (ne_i (by omega)) nin0)) rfl (by simp [fits]) (by simp [fits]) (by simp) (by simp) (by decide) (i := 0) (by decide) (by decide) (j := 1) (by decide) (by decide) (q := 1) (by decide) (by simp) (by simp) (vs' := (.long e0 :: .long q0 :: List.replicate 62 (.long (0 : Int64)))) rfl rfl d14_170 rfl (by omega) (by decide) (W := 0) (Nat.le_of_ble_eq_true rfl) (by decide) ?_
      intro h2 K2 A2
      refine go_old fun O2 => ?_
      refine go_aloadN C (pc' := 174) d14_173 rfl rfl rfl ?_
      refine go_dup C (pc' := 175) d14_174 rfl rfl ?_
      refine gF C (pc' := 178) (wd_99 hw) (S1.2.2.2.2.2.2.2.2.2.2.1.keep K2 (ninS (ne_i (by omega)) nin0)) d14_175 rfl ?_
      refine go_iconst C (pc' := 179) d14_178 (z := (1 : Int32)) (by decide) rfl ?_
      refine go_iadd C (pc' := 180) d14_179 rfl ?_
      refine go_st (st' := [(.int (2 : Int32)), (.ref b)]) (by rw [show ((1 : Int32) + (1 : Int32)) = (2 : Int32) from by decide]) ?_
      refine go_putF C (pc' := 183) (host := "") (Or.inl (wd_99 hw)) Via.refl (S1.2.2.2.2.2.2.2.2.2.2.1.keep K2 (ninS (ne_i (by omega)) nin0)) (S1.1.keep K2) (Or.inl (wd_100 hw)) (wd_12 hw) (ty := .int) (by decide) rfl rfl d14_180 rfl (by omega) ?_
      intro h3 W3 F3
      refine go_old fun O3 => ?_
      refine go_aloadN C (pc' := 184) d14_183 rfl rfl rfl ?_
      have fx4 := ((S1.2.2.2.2.2.2.2.2.2.2.2.1.keep K2 (ninS (ne_i (by omega)) nin0)).other W3 (Or.inr (sn_46 hw).symm))
      refine gF C (pc' := 187) (wd_25 hw) fx4 d14_184 rfl ?_
      refine go_iload C (pc' := 189) d14_187 rfl rfl ?_
      refine go_iloadN C (pc' := 190) d14_189 rfl rfl ?_
      refine go_i2l C (pc' := 191) d14_190 rfl ?_
      refine go_bipush C (pc' := 193) d14_191 (z := (32 : Int32)) (by decide) rfl ?_
      refine go_lshl C (pc' := 194) d14_193 rfl ?_
      refine go_aloadN C (pc' := 195) d14_194 rfl rfl rfl ?_
      refine gF C (pc' := 198) (wd_99 hw) F3 d14_195 rfl ?_
      refine go_i2l C (pc' := 199) d14_198 rfl ?_
      refine go_st (st' := [(.long (2 : Int64)), (.long ((hs).toInt64 <<< ((32 : Int32) &&& 0x3f).toInt64)), (.int (((hs &&& (127 : Int32)) + (1 : Int32)) &&& (127 : Int32))), (.ref tb)]) (by rw [show ((2 : Int32)).toInt64 = (2 : Int64) from by decide]) ?_
      refine go_lor C (pc' := 200) d14_199 rfl ?_
      refine go_st (st' := [(.long (ent hs (2 : Int64))), (.int (((hs &&& (127 : Int32)) + (1 : Int32)) &&& (127 : Int32))), (.ref tb)]) rfl ?_
      have fx5 := ((S1.2.2.2.2.2.2.2.2.2.2.2.2.2.2.1.keep K2 (ninS (ne_i (by omega)) nin0)).other W3 (ne_i (by omega)))
      refine go_laset C (pc' := 201) fx5 (and127 _).1 (i := _) rfl (by rw [T.1]; exact (and127 _).2) (vs' := (vt.set (((hs &&& (127 : Int32)) + (1 : Int32)) &&& (127 : Int32)).toNatClampNeg (.long (ent hs (2 : Int64))))) rfl d14_200 rfl (by omega) ?_
      intro h6 W6 A6
      refine go_old fun O6 => ?_
      refine go_ldcLong C (pc' := 204) (wd_114 hw) d14_201 rfl ?_
      refine go_aloadN C (pc' := 205) d14_204 rfl rfl rfl ?_
      refine gF C (pc' := 208) (wd_99 hw) (F3.other W6 (Or.inl (ne_i (by omega)))) d14_205 rfl ?_
      refine go_i2l C (pc' := 209) d14_208 rfl ?_
      refine go_st (st' := [(.long (2 : Int64)), (.long (2 : Int64))]) (by rw [show ((2 : Int32)).toInt64 = (2 : Int64) from by decide]) ?_
      refine go_lmul C (pc' := 210) d14_209 rfl ?_
      refine go_st (st' := [(.long (4 : Int64))]) (by rw [show ((2 : Int64) * (2 : Int64)) = (4 : Int64) from by decide]) ?_
      refine go_aloadN C (pc' := 211) d14_210 rfl rfl rfl ?_
      refine gF C (pc' := 214) (wd_25 hw) (fx4.other W6 (Or.inl (ne_i (by omega)))) d14_211 rfl ?_
      refine go_alen C (pc' := 215) A6 (z := (128 : Int32)) (by rw [List.length_set, T.1]; rfl) d14_214 rfl ?_
      refine go_i2l C (pc' := 216) d14_215 rfl ?_
      refine go_st (st' := [(.long (128 : Int64)), (.long (4 : Int64))]) (by rw [show ((128 : Int32)).toInt64 = (128 : Int64) from by decide]) ?_
      refine go_lcmp C (pc' := 217) d14_216 rfl ?_
      refine go_st (st' := [(.int (-1 : Int32))]) (by rw [show (lcmpW (4 : Int64) (128 : Int64)) = (-1 : Int32) from by decide]) ?_
      refine go_ifYes C (pc' := 224) d14_217 (by decide) (by decide) (by decide) ?_
      refine go_aloadN C (pc' := 225) d14_224 rfl rfl rfl ?_
      refine gF C (pc' := 228) (wd_99 hw) (F3.other W6 (Or.inl (ne_i (by omega)))) d14_225 rfl ?_
      refine go_iconst C (pc' := 229) d14_228 (z := (1 : Int32)) (by decide) rfl ?_
      refine go_isub C (pc' := 230) d14_229 rfl ?_
      refine go_st (st' := [(.int (1 : Int32))]) (by rw [show ((2 : Int32) - (1 : Int32)) = (1 : Int32) from by decide]) ?_
      have fx7 := (((S1.2.1.keep K2 (ninS (ne_i (by omega)) nin0)).other W3 (Or.inr (sn_47 hw).symm)).other W6 (Or.inl (ne_i (by omega))))
      have fx8 := (((S1.2.2.1.keep K2 (ninS (ne_i (by omega)) nin0)).other W3 (Or.inr (sn_48 hw).symm)).other W6 (Or.inl (ne_i (by omega))))
      have fx9 := (((S1.2.2.2.1.keep K2 (ninS (ne_i (by omega)) nin0)).other W3 (Or.inr (sn_51 hw).symm)).other W6 (Or.inl (ne_i (by omega))))
      have fx10 := (((S1.2.2.2.2.1.keep K2 (ninS (ne_i (by omega)) nin0)).other W3 (Or.inr (sn_52 hw).symm)).other W6 (Or.inl (ne_i (by omega))))
      have fx11 := (((S1.2.2.2.2.2.1.keep K2 (ninS (ne_i (by omega)) nin0)).other W3 (Or.inr (sn_49 hw).symm)).other W6 (Or.inl (ne_i (by omega))))
      have fx12 := (((S1.2.2.2.2.2.2.1.keep K2 (ninS (ne_i (by omega)) nin0)).other W3 (Or.inr (sn_50 hw).symm)).other W6 (Or.inl (ne_i (by omega))))
      have fx13 := (((S1.2.2.2.2.2.2.2.1.keep K2 (ninS (ne_i (by omega)) nin0)).other W3 (Or.inr (sn_53 hw).symm)).other W6 (Or.inl (ne_i (by omega))))
      have fx14 := (((S1.2.2.2.2.2.2.2.2.1.keep K2 (ninS (ne_i (by omega)) nin0)).other W3 (Or.inr (sn_64 hw).symm)).other W6 (Or.inl (ne_i (by omega))))
      have fx15 := (((S1.2.2.2.2.2.2.2.2.2.1.keep K2 (ninS (ne_i (by omega)) nin0)).other W3 (Or.inr (sn_45 hw).symm)).other W6 (Or.inl (ne_i (by omega))))
      have fx16 := (((S1.2.2.2.2.2.2.2.2.2.2.2.2.1.keep K2 (ninS (ne_i (by omega)) nin0)).other W3 (Or.inr (sn_65 hw).symm)).other W6 (Or.inl (ne_i (by omega))))
      have fx17 := (((S1.2.2.2.2.2.2.2.2.2.2.2.2.2.1.keep K2 (ninS (ne_i (by omega)) nin0)).other W3 (ne_i (by omega))).other W6 (ne_i (by omega)))
      have fx18 := (((S1.2.2.2.2.2.2.2.2.2.2.2.2.2.2.2.1.keep K2 (ninS (ne_i (by omega)) nin0)).other W3 (ne_i (by omega))).other W6 (ne_i (by omega)))
      have fx19 := (((S1.2.2.2.2.2.2.2.2.2.2.2.2.2.2.2.2.1.keep K2 (ninS (ne_i (by omega)) nin0)).other W3 (ne_i (by omega))).other W6 (ne_i (by omega)))
      have fx20 := (((S1.2.2.2.2.2.2.2.2.2.2.2.2.2.2.2.2.2.1.keep K2 (ninS (ne_i (by omega)) nin0)).other W3 (ne_i (by omega))).other W6 (ne_i (by omega)))
      have fx21 := (((S1.2.2.2.2.2.2.2.2.2.2.2.2.2.2.2.2.2.2.1.keep K2 (ninS (ne_i (by omega)) nin0)).other W3 (ne_i (by omega))).other W6 (ne_i (by omega)))
      have fx22 := (((S1.2.2.2.2.2.2.2.2.2.2.2.2.2.2.2.2.2.2.2.1.keep K2 (ninS (ne_i (by omega)) nin0)).other W3 (ne_i (by omega))).other W6 (ne_i (by omega)))
      have fx23 := (((S1.2.2.2.2.2.2.2.2.2.2.2.2.2.2.2.2.2.2.2.2.1.keep K2 (ninS (ne_i (by omega)) nin0)).other W3 (ne_i (by omega))).other W6 (ne_i (by omega)))
      have fx24 := (((S1.2.2.2.2.2.2.2.2.2.2.2.2.2.2.2.2.2.2.2.2.2.1.keep K2 (ninS (ne_i (by omega)) nin0)).other W3 (ne_i (by omega))).other W6 (ne_i (by omega)))
      exact go_retI C d14_230 (by decide) (by decide) ⟨_, _, _, _, rfl, Or.inr ⟨rfl, fun z => hr ⟨(ent_hi g).trans (show g = hs by rw [← hhs, ← hg, z]), (z).symm⟩, rfl⟩, ⟨(((S1.1.keep K2).wr W3).wr W6), fx7, fx8, fx9, fx10, fx11, fx12, fx13, fx14, fx15, (F3.other W6 (Or.inl (ne_i (by omega)))), (fx4.other W6 (Or.inl (ne_i (by omega)))), fx16, fx17, A6, fx18, fx19, fx20, fx21, fx22, fx23, fx24, S1.2.2.2.2.2.2.2.2.2.2.2.2.2.2.2.2.2.2.2.2.2.2⟩, ((A2.other W3 (ne_i (by omega))).other W6 (ne_i (by omega))), (((((Keep.refl _ [b, tb, pk, pg]).trans Kp1 (allS (Or.inl (by simp)) all0)).trans K2 (allS (Or.inl (by simp)) all0)).wr W3 (Or.inl (by simp))).wr W6 (Or.inl (by simp)))⟩
  · refine go_callP C (pc' := 11) (y' := (⟨"com/example/invariant/invariant/check/ConfigurationStore", "slot", "(I)I"⟩ : MethodName)) (wd_91 hw) (wd_92 hw) (wd_93 hw) (wd_12 hw) (slotA1_met l Z a0 hw _ _ O1 hs T.1 ⟨S1.1, S1.2.1, S1.2.2.1, S1.2.2.2.1, S1.2.2.2.2.1, S1.2.2.2.2.2.1, S1.2.2.2.2.2.2.1, S1.2.2.2.2.2.2.2.1, S1.2.2.2.2.2.2.2.2.1, S1.2.2.2.2.2.2.2.2.2.1, S1.2.2.2.2.2.2.2.2.2.2.1, S1.2.2.2.2.2.2.2.2.2.2.2.1, S1.2.2.2.2.2.2.2.2.2.2.2.2.1, S1.2.2.2.2.2.2.2.2.2.2.2.2.2.1, S1.2.2.2.2.2.2.2.2.2.2.2.2.2.2.1, S1.2.2.2.2.2.2.2.2.2.2.2.2.2.2.2.1, S1.2.2.2.2.2.2.2.2.2.2.2.2.2.2.2.2.1, S1.2.2.2.2.2.2.2.2.2.2.2.2.2.2.2.2.2.1, S1.2.2.2.2.2.2.2.2.2.2.2.2.2.2.2.2.2.2.1, S1.2.2.2.2.2.2.2.2.2.2.2.2.2.2.2.2.2.2.2.1, S1.2.2.2.2.2.2.2.2.2.2.2.2.2.2.2.2.2.2.2.2.1, S1.2.2.2.2.2.2.2.2.2.2.2.2.2.2.2.2.2.2.2.2.2.1, S1.2.2.2.2.2.2.2.2.2.2.2.2.2.2.2.2.2.2.2.2.2.2⟩ (T.2.1 _ (and127 _).2 hq)) (wd_94 hw) (wd_13 hw) (by decide) (by decide) (W := 0) (Nat.le_of_ble_eq_true rfl) (by decide) (by decide) (by decide) rfl S1.1 (argsL := [(.int hs)]) (rest := []) pd_0 rfl rfl rfl d14_8 rfl ?_
    rintro _ _ ⟨rfl, rfl⟩
    refine go_st (st' := [(.int (hs &&& (127 : Int32)))]) rfl ?_
    refine go_istore C (pc' := 13) d14_11 (Ls' := #[(.val (.ref b)), (.val (.ref cf)), (.val .null), (.val (.int hs)), (.val (.int (hs &&& (127 : Int32)))), .unset, .unset, .unset]) rfl rfl ?_
    refine go_aloadN C (pc' := 14) d14_13 rfl rfl rfl ?_
    refine gF C (pc' := 17) (wd_25 hw) S1.2.2.2.2.2.2.2.2.2.2.2.1 d14_14 rfl ?_
    refine go_iload C (pc' := 19) d14_17 rfl rfl ?_
    refine go_laget C (pc' := 20) S1.2.2.2.2.2.2.2.2.2.2.2.2.2.2.1 (and127 _).1 (i := _) rfl (T.2.1 _ (and127 _).2 hq) d14_19 rfl ?_
    refine go_lconst C (pc' := 21) d14_20 (z := (0 : Int64)) (by decide) rfl ?_
    refine go_lcmp C (pc' := 22) d14_21 rfl ?_
    refine go_st (st' := [(.int (0 : Int32))]) (by rw [show (lcmpW (0 : Int64) (0 : Int64)) = (0 : Int32) from by decide]) ?_
    refine go_ifYes C (pc' := 36) d14_22 (by decide) (by decide) (by decide) ?_
    refine go_aloadN C (pc' := 37) d14_36 rfl rfl rfl ?_
    refine go_iloadN C (pc' := 38) d14_37 rfl rfl ?_
    refine go_aloadN C (pc' := 39) d14_38 rfl rfl rfl ?_
    refine go_callP C (pc' := 42) (y' := (⟨"com/example/invariant/invariant/check/ConfigurationStore", "holder", "(ILjava/util/function/IntPredicate;)I"⟩ : MethodName)) (wd_95 hw) (wd_96 hw) (wd_97 hw) (wd_12 hw) (holder1_met l Z a0 hw _ _ O1 hs T.1 ⟨S1.1, S1.2.1, S1.2.2.1, S1.2.2.2.1, S1.2.2.2.2.1, S1.2.2.2.2.2.1, S1.2.2.2.2.2.2.1, S1.2.2.2.2.2.2.2.1, S1.2.2.2.2.2.2.2.2.1, S1.2.2.2.2.2.2.2.2.2.1, S1.2.2.2.2.2.2.2.2.2.2.1, S1.2.2.2.2.2.2.2.2.2.2.2.1, S1.2.2.2.2.2.2.2.2.2.2.2.2.1, S1.2.2.2.2.2.2.2.2.2.2.2.2.2.1, S1.2.2.2.2.2.2.2.2.2.2.2.2.2.2.1, S1.2.2.2.2.2.2.2.2.2.2.2.2.2.2.2.1, S1.2.2.2.2.2.2.2.2.2.2.2.2.2.2.2.2.1, S1.2.2.2.2.2.2.2.2.2.2.2.2.2.2.2.2.2.1, S1.2.2.2.2.2.2.2.2.2.2.2.2.2.2.2.2.2.2.1, S1.2.2.2.2.2.2.2.2.2.2.2.2.2.2.2.2.2.2.2.1, S1.2.2.2.2.2.2.2.2.2.2.2.2.2.2.2.2.2.2.2.2.1, S1.2.2.2.2.2.2.2.2.2.2.2.2.2.2.2.2.2.2.2.2.2.1, S1.2.2.2.2.2.2.2.2.2.2.2.2.2.2.2.2.2.2.2.2.2.2⟩) (wd_98 hw) (wd_13 hw) (by decide) (by decide) (W := 0) (Nat.le_of_ble_eq_true rfl) (by decide) (by decide) (by decide) rfl S1.1 (argsL := [(.int hs), .null]) (rest := []) pd_6 rfl rfl rfl d14_39 rfl ?_
    rintro _ _ ⟨rfl, rfl⟩
    refine go_st (st' := [(.int (-1 : Int32))]) rfl ?_
    refine go_istore C (pc' := 44) d14_42 (Ls' := #[(.val (.ref b)), (.val (.ref cf)), (.val .null), (.val (.int hs)), (.val (.int (hs &&& (127 : Int32)))), (.val (.int (-1 : Int32))), .unset, .unset]) rfl rfl ?_
    refine go_iload C (pc' := 46) d14_44 rfl rfl ?_
    refine go_ifYes C (pc' := 52) d14_46 (by decide) (by decide) (by decide) ?_
    refine go_aloadN C (pc' := 53) d14_52 rfl rfl rfl ?_
    refine gF C (pc' := 56) (wd_99 hw) S1.2.2.2.2.2.2.2.2.2.2.1 d14_53 rfl ?_
    refine go_aloadN C (pc' := 57) d14_56 rfl rfl rfl ?_
    refine go_callV C (pc' := 60) (y' := (⟨"com/example/invariant/invariant/check/ConfigurationStore", "capacity", "()I"⟩ : MethodName)) (wd_101 hw) (wd_102 hw) (wd_104 hw) (wd_103 hw) (cap_met l Z a0 hw _ _ O1 b) (wd_105 hw) (wd_13 hw) (by decide) (by decide) (W := 1) (Nat.le_of_ble_eq_true rfl) (by decide) (by decide) (by decide) rfl S1.1 (argsL := []) (rest := [(.int (1 : Int32))]) pd_7 rfl rfl rfl d14_57 rfl ?_
    rintro _ _ ⟨rfl, rfl⟩
    refine go_st (st' := [(.int (536870912 : Int32)), (.int (1 : Int32))]) rfl ?_
    refine go_icmpYes C (pc' := 80) d14_60 (by decide) (by decide) (by decide) ?_
    refine go_aloadN C (pc' := 81) d14_80 rfl rfl rfl ?_
    refine gF C (pc' := 84) (wd_99 hw) S1.2.2.2.2.2.2.2.2.2.2.1 d14_81 rfl ?_
    refine go_aloadN C (pc' := 85) d14_84 rfl rfl rfl ?_
    refine gF C (pc' := 88) (wd_71 hw) S1.2.2.2.2.2.2.2.2.1 d14_85 rfl ?_
    refine go_iushr C (pc' := 89) d14_88 rfl ?_
    refine go_st (st' := [(.int (0 : Int32))]) (by rw [show (((1 : Int32)).toUInt32 >>> ((20 : Int32) &&& 31).toUInt32).toInt32 = (0 : Int32) from by decide]) ?_
    refine go_istore C (pc' := 91) d14_89 (Ls' := #[(.val (.ref b)), (.val (.ref cf)), (.val .null), (.val (.int hs)), (.val (.int (hs &&& (127 : Int32)))), (.val (.int (-1 : Int32))), (.val (.int (0 : Int32))), .unset]) rfl rfl ?_
    refine go_aloadN C (pc' := 92) d14_91 rfl rfl rfl ?_
    refine gF C (pc' := 95) (wd_99 hw) S1.2.2.2.2.2.2.2.2.2.2.1 d14_92 rfl ?_
    refine go_iconst C (pc' := 96) d14_95 (z := (1 : Int32)) (by decide) rfl ?_
    refine go_aloadN C (pc' := 97) d14_96 rfl rfl rfl ?_
    refine gF C (pc' := 100) (wd_71 hw) S1.2.2.2.2.2.2.2.2.1 d14_97 rfl ?_
    refine go_ishl C (pc' := 101) d14_100 rfl ?_
    refine go_st (st' := [(.int (1048576 : Int32)), (.int (1 : Int32))]) (by rw [show ((1 : Int32) <<< ((20 : Int32) &&& 31)) = (1048576 : Int32) from by decide]) ?_
    refine go_iconst C (pc' := 102) d14_101 (z := (1 : Int32)) (by decide) rfl ?_
    refine go_isub C (pc' := 103) d14_102 rfl ?_
    refine go_st (st' := [(.int (1048575 : Int32)), (.int (1 : Int32))]) (by rw [show ((1048576 : Int32) - (1 : Int32)) = (1048575 : Int32) from by decide]) ?_
    refine go_iand C (pc' := 104) d14_103 rfl ?_
    refine go_st (st' := [(.int (1 : Int32))]) (by rw [show ((1 : Int32) &&& (1048575 : Int32)) = (1 : Int32) from by decide]) ?_
    refine go_aloadN C (pc' := 105) d14_104 rfl rfl rfl ?_
    refine gF C (pc' := 108) (wd_64 hw) S1.2.2.2.2.1 d14_105 rfl ?_
    refine go_imul C (pc' := 109) d14_108 rfl ?_
    refine go_st (st' := [(.int (1 : Int32))]) (by rw [show ((1 : Int32) * (1 : Int32)) = (1 : Int32) from by decide]) ?_
    refine go_istore C (pc' := 111) d14_109 (Ls' := #[(.val (.ref b)), (.val (.ref cf)), (.val .null), (.val (.int hs)), (.val (.int (hs &&& (127 : Int32)))), (.val (.int (-1 : Int32))), (.val (.int (0 : Int32))), (.val (.int (1 : Int32)))]) rfl rfl ?_
    refine go_iload C (pc' := 113) d14_111 rfl rfl ?_
    refine go_aloadN C (pc' := 114) d14_113 rfl rfl rfl ?_
    refine gF C (pc' := 117) (wd_22 hw) S1.2.2.2.2.2.2.2.2.2.1 d14_114 rfl ?_
    refine go_alen C (pc' := 118) S1.2.2.2.2.2.2.2.2.2.2.2.2.2.1 (z := (1 : Int32)) rfl d14_117 rfl ?_
    refine go_icmpNo C (pc' := 121) d14_118 (by decide) rfl ?_
    refine go_aloadN C (pc' := 122) d14_121 rfl rfl rfl ?_
    refine gF C (pc' := 125) (wd_22 hw) S1.2.2.2.2.2.2.2.2.2.1 d14_122 rfl ?_
    refine go_iload C (pc' := 127) d14_125 rfl rfl ?_
    refine go_raget C (pc' := 128) S1.2.2.2.2.2.2.2.2.2.2.2.2.2.1 rfl (by decide) (i := 0) (by decide) rfl d14_127 rfl ?_
    refine go_ifnullNo C (pc' := 131) d14_128 rfl ?_
    refine go_aloadN C (pc' := 132) d14_131 rfl rfl rfl ?_
    refine gF C (pc' := 135) (wd_22 hw) S1.2.2.2.2.2.2.2.2.2.1 d14_132 rfl ?_
    refine go_iload C (pc' := 137) d14_135 rfl rfl ?_
    refine go_raget C (pc' := 138) S1.2.2.2.2.2.2.2.2.2.2.2.2.2.1 rfl (by decide) (i := 0) (by decide) rfl d14_137 rfl ?_
    refine go_alen C (pc' := 139) (Apg.keep Kp1 (ninS (ne_i (by omega)) nin0)) (z := (64 : Int32)) (by rfl) d14_138 rfl ?_
    refine go_iload C (pc' := 141) d14_139 rfl rfl ?_
    refine go_icmpYes C (pc' := 152) d14_141 (by decide) (by decide) (by decide) ?_
    refine go_aloadN C (pc' := 153) d14_152 rfl rfl rfl ?_
    refine gF C (pc' := 156) (wd_73 hw) S1.2.2.2.2.2.2.2.2.2.2.2.2.1 d14_153 rfl ?_
    refine go_iconst C (pc' := 157) d14_156 (z := (0 : Int32)) (by decide) rfl ?_
    refine go_aloadN C (pc' := 158) d14_157 rfl rfl rfl ?_
    refine gF C (pc' := 161) (wd_22 hw) S1.2.2.2.2.2.2.2.2.2.1 d14_158 rfl ?_
    refine go_iload C (pc' := 163) d14_161 rfl rfl ?_
    refine go_raget C (pc' := 164) S1.2.2.2.2.2.2.2.2.2.2.2.2.2.1 rfl (by decide) (i := 0) (by decide) rfl d14_163 rfl ?_
    refine go_iload C (pc' := 166) d14_164 rfl rfl ?_
    refine go_aloadN C (pc' := 167) d14_166 rfl rfl rfl ?_
    refine gF C (pc' := 170) (wd_64 hw) S1.2.2.2.2.1 d14_167 rfl ?_
    refine go_acopy C (pc' := 173) (wd_113 hw) (wd_61 hw) (wd_59 hw) (wd_60 hw) S1.2.2.2.2.2.2.2.2.2.2.2.2.2.2.2.2.2.2.2.2.2.1 (Apg.keep Kp1 (ninS (ne_i (by omega)) nin0)) rfl (by simp [fits]) (by simp [fits]) (by simp) (by simp) (by decide) (i := 0) (by decide) (by decide) (j := 1) (by decide) (by decide) (q := 1) (by decide) (by simp) (by simp) (vs' := (.long e0 :: .long q0 :: List.replicate 62 (.long (0 : Int64)))) rfl rfl d14_170 rfl (by omega) (by decide) (W := 0) (Nat.le_of_ble_eq_true rfl) (by decide) ?_
    intro h25 K25 A25
    refine go_old fun O25 => ?_
    refine go_aloadN C (pc' := 174) d14_173 rfl rfl rfl ?_
    refine go_dup C (pc' := 175) d14_174 rfl rfl ?_
    refine gF C (pc' := 178) (wd_99 hw) (S1.2.2.2.2.2.2.2.2.2.2.1.keep K25 (ninS (ne_i (by omega)) nin0)) d14_175 rfl ?_
    refine go_iconst C (pc' := 179) d14_178 (z := (1 : Int32)) (by decide) rfl ?_
    refine go_iadd C (pc' := 180) d14_179 rfl ?_
    refine go_st (st' := [(.int (2 : Int32)), (.ref b)]) (by rw [show ((1 : Int32) + (1 : Int32)) = (2 : Int32) from by decide]) ?_
    refine go_putF C (pc' := 183) (host := "") (Or.inl (wd_99 hw)) Via.refl (S1.2.2.2.2.2.2.2.2.2.2.1.keep K25 (ninS (ne_i (by omega)) nin0)) (S1.1.keep K25) (Or.inl (wd_100 hw)) (wd_12 hw) (ty := .int) (by decide) rfl rfl d14_180 rfl (by omega) ?_
    intro h26 W26 F26
    refine go_old fun O26 => ?_
    refine go_aloadN C (pc' := 184) d14_183 rfl rfl rfl ?_
    have fx27 := ((S1.2.2.2.2.2.2.2.2.2.2.2.1.keep K25 (ninS (ne_i (by omega)) nin0)).other W26 (Or.inr (sn_46 hw).symm))
    refine gF C (pc' := 187) (wd_25 hw) fx27 d14_184 rfl ?_
    refine go_iload C (pc' := 189) d14_187 rfl rfl ?_
    refine go_iloadN C (pc' := 190) d14_189 rfl rfl ?_
    refine go_i2l C (pc' := 191) d14_190 rfl ?_
    refine go_bipush C (pc' := 193) d14_191 (z := (32 : Int32)) (by decide) rfl ?_
    refine go_lshl C (pc' := 194) d14_193 rfl ?_
    refine go_aloadN C (pc' := 195) d14_194 rfl rfl rfl ?_
    refine gF C (pc' := 198) (wd_99 hw) F26 d14_195 rfl ?_
    refine go_i2l C (pc' := 199) d14_198 rfl ?_
    refine go_st (st' := [(.long (2 : Int64)), (.long ((hs).toInt64 <<< ((32 : Int32) &&& 0x3f).toInt64)), (.int (hs &&& (127 : Int32))), (.ref tb)]) (by rw [show ((2 : Int32)).toInt64 = (2 : Int64) from by decide]) ?_
    refine go_lor C (pc' := 200) d14_199 rfl ?_
    refine go_st (st' := [(.long (ent hs (2 : Int64))), (.int (hs &&& (127 : Int32))), (.ref tb)]) rfl ?_
    have fx28 := ((S1.2.2.2.2.2.2.2.2.2.2.2.2.2.2.1.keep K25 (ninS (ne_i (by omega)) nin0)).other W26 (ne_i (by omega)))
    refine go_laset C (pc' := 201) fx28 (and127 _).1 (i := _) rfl (by rw [T.1]; exact (and127 _).2) (vs' := (vt.set (hs &&& (127 : Int32)).toNatClampNeg (.long (ent hs (2 : Int64))))) rfl d14_200 rfl (by omega) ?_
    intro h29 W29 A29
    refine go_old fun O29 => ?_
    refine go_ldcLong C (pc' := 204) (wd_114 hw) d14_201 rfl ?_
    refine go_aloadN C (pc' := 205) d14_204 rfl rfl rfl ?_
    refine gF C (pc' := 208) (wd_99 hw) (F26.other W29 (Or.inl (ne_i (by omega)))) d14_205 rfl ?_
    refine go_i2l C (pc' := 209) d14_208 rfl ?_
    refine go_st (st' := [(.long (2 : Int64)), (.long (2 : Int64))]) (by rw [show ((2 : Int32)).toInt64 = (2 : Int64) from by decide]) ?_
    refine go_lmul C (pc' := 210) d14_209 rfl ?_
    refine go_st (st' := [(.long (4 : Int64))]) (by rw [show ((2 : Int64) * (2 : Int64)) = (4 : Int64) from by decide]) ?_
    refine go_aloadN C (pc' := 211) d14_210 rfl rfl rfl ?_
    refine gF C (pc' := 214) (wd_25 hw) (fx27.other W29 (Or.inl (ne_i (by omega)))) d14_211 rfl ?_
    refine go_alen C (pc' := 215) A29 (z := (128 : Int32)) (by rw [List.length_set, T.1]; rfl) d14_214 rfl ?_
    refine go_i2l C (pc' := 216) d14_215 rfl ?_
    refine go_st (st' := [(.long (128 : Int64)), (.long (4 : Int64))]) (by rw [show ((128 : Int32)).toInt64 = (128 : Int64) from by decide]) ?_
    refine go_lcmp C (pc' := 217) d14_216 rfl ?_
    refine go_st (st' := [(.int (-1 : Int32))]) (by rw [show (lcmpW (4 : Int64) (128 : Int64)) = (-1 : Int32) from by decide]) ?_
    refine go_ifYes C (pc' := 224) d14_217 (by decide) (by decide) (by decide) ?_
    refine go_aloadN C (pc' := 225) d14_224 rfl rfl rfl ?_
    refine gF C (pc' := 228) (wd_99 hw) (F26.other W29 (Or.inl (ne_i (by omega)))) d14_225 rfl ?_
    refine go_iconst C (pc' := 229) d14_228 (z := (1 : Int32)) (by decide) rfl ?_
    refine go_isub C (pc' := 230) d14_229 rfl ?_
    refine go_st (st' := [(.int (1 : Int32))]) (by rw [show ((2 : Int32) - (1 : Int32)) = (1 : Int32) from by decide]) ?_
    have fx30 := (((S1.2.1.keep K25 (ninS (ne_i (by omega)) nin0)).other W26 (Or.inr (sn_47 hw).symm)).other W29 (Or.inl (ne_i (by omega))))
    have fx31 := (((S1.2.2.1.keep K25 (ninS (ne_i (by omega)) nin0)).other W26 (Or.inr (sn_48 hw).symm)).other W29 (Or.inl (ne_i (by omega))))
    have fx32 := (((S1.2.2.2.1.keep K25 (ninS (ne_i (by omega)) nin0)).other W26 (Or.inr (sn_51 hw).symm)).other W29 (Or.inl (ne_i (by omega))))
    have fx33 := (((S1.2.2.2.2.1.keep K25 (ninS (ne_i (by omega)) nin0)).other W26 (Or.inr (sn_52 hw).symm)).other W29 (Or.inl (ne_i (by omega))))
    have fx34 := (((S1.2.2.2.2.2.1.keep K25 (ninS (ne_i (by omega)) nin0)).other W26 (Or.inr (sn_49 hw).symm)).other W29 (Or.inl (ne_i (by omega))))
    have fx35 := (((S1.2.2.2.2.2.2.1.keep K25 (ninS (ne_i (by omega)) nin0)).other W26 (Or.inr (sn_50 hw).symm)).other W29 (Or.inl (ne_i (by omega))))
    have fx36 := (((S1.2.2.2.2.2.2.2.1.keep K25 (ninS (ne_i (by omega)) nin0)).other W26 (Or.inr (sn_53 hw).symm)).other W29 (Or.inl (ne_i (by omega))))
    have fx37 := (((S1.2.2.2.2.2.2.2.2.1.keep K25 (ninS (ne_i (by omega)) nin0)).other W26 (Or.inr (sn_64 hw).symm)).other W29 (Or.inl (ne_i (by omega))))
    have fx38 := (((S1.2.2.2.2.2.2.2.2.2.1.keep K25 (ninS (ne_i (by omega)) nin0)).other W26 (Or.inr (sn_45 hw).symm)).other W29 (Or.inl (ne_i (by omega))))
    have fx39 := (((S1.2.2.2.2.2.2.2.2.2.2.2.2.1.keep K25 (ninS (ne_i (by omega)) nin0)).other W26 (Or.inr (sn_65 hw).symm)).other W29 (Or.inl (ne_i (by omega))))
    have fx40 := (((S1.2.2.2.2.2.2.2.2.2.2.2.2.2.1.keep K25 (ninS (ne_i (by omega)) nin0)).other W26 (ne_i (by omega))).other W29 (ne_i (by omega)))
    have fx41 := (((S1.2.2.2.2.2.2.2.2.2.2.2.2.2.2.2.1.keep K25 (ninS (ne_i (by omega)) nin0)).other W26 (ne_i (by omega))).other W29 (ne_i (by omega)))
    have fx42 := (((S1.2.2.2.2.2.2.2.2.2.2.2.2.2.2.2.2.1.keep K25 (ninS (ne_i (by omega)) nin0)).other W26 (ne_i (by omega))).other W29 (ne_i (by omega)))
    have fx43 := (((S1.2.2.2.2.2.2.2.2.2.2.2.2.2.2.2.2.2.1.keep K25 (ninS (ne_i (by omega)) nin0)).other W26 (ne_i (by omega))).other W29 (ne_i (by omega)))
    have fx44 := (((S1.2.2.2.2.2.2.2.2.2.2.2.2.2.2.2.2.2.2.1.keep K25 (ninS (ne_i (by omega)) nin0)).other W26 (ne_i (by omega))).other W29 (ne_i (by omega)))
    have fx45 := (((S1.2.2.2.2.2.2.2.2.2.2.2.2.2.2.2.2.2.2.2.1.keep K25 (ninS (ne_i (by omega)) nin0)).other W26 (ne_i (by omega))).other W29 (ne_i (by omega)))
    have fx46 := (((S1.2.2.2.2.2.2.2.2.2.2.2.2.2.2.2.2.2.2.2.2.1.keep K25 (ninS (ne_i (by omega)) nin0)).other W26 (ne_i (by omega))).other W29 (ne_i (by omega)))
    have fx47 := (((S1.2.2.2.2.2.2.2.2.2.2.2.2.2.2.2.2.2.2.2.2.2.1.keep K25 (ninS (ne_i (by omega)) nin0)).other W26 (ne_i (by omega))).other W29 (ne_i (by omega)))
    exact go_retI C d14_230 (by decide) (by decide) ⟨_, _, _, _, rfl, Or.inr ⟨rfl, fun z => hq (by rw [(show g = hs by rw [← hhs, ← hg, z])]), rfl⟩, ⟨(((S1.1.keep K25).wr W26).wr W29), fx30, fx31, fx32, fx33, fx34, fx35, fx36, fx37, fx38, (F26.other W29 (Or.inl (ne_i (by omega)))), (fx27.other W29 (Or.inl (ne_i (by omega)))), fx39, fx40, A29, fx41, fx42, fx43, fx44, fx45, fx46, fx47, S1.2.2.2.2.2.2.2.2.2.2.2.2.2.2.2.2.2.2.2.2.2.2⟩, ((A25.other W26 (ne_i (by omega))).other W29 (ne_i (by omega))), (((((Keep.refl _ [b, tb, pk, pg]).trans Kp1 (allS (Or.inl (by simp)) all0)).trans K25 (allS (Or.inl (by simp)) all0)).wr W26 (Or.inl (by simp))).wr W29 (Or.inl (by simp)))⟩
set_option maxRecDepth 65536 in
set_option maxHeartbeats 4000000 in
theorem add1_1_met (l : Launch) (Z : State) (a0 : Array Value) (hw : ∀ d ∈ tables_1, d.before a0 Z = true) (n0 : Nat) (h : Heap) (O : Old Z n0 h)  {b pgs tb lo hi sh mk fi km pk : Nat} {kpgs ktb klo khi ksh kmk kfi kkm kpk : ClassId} {l0 u0 l1 u1 l2 u2 l3 u3 s1 s2 s3 : Int32} {m0 m1 m2 m3 KM0 : Int64} {vt : List Value} {hs g : Int32} {p0 q0 e0 : Int64} {pg : Nat} {kpg : ClassId} (S : Sto Z h b pgs tb lo hi sh mk fi km pk kpgs ktb klo khi ksh kmk kfi kkm kpk (1 : Int32) (20 : Int32) (1 : Int32) [(.ref pg)] vt [(.int l0), (.int l1), (.int l2), (.int l3)] [(.int u0), (.int u1), (.int u2), (.int u3)] [(.int (0 : Int32)), (.int s1), (.int s2), (.int s3)] [(.long m0), (.long m1), (.long m2), (.long m3)] [(.int (0 : Int32)), (.int (4 : Int32))] [(.long KM0)] [(.long p0)]) (o : Ord n0 b pgs tb lo hi sh mk fi km pk) {cf : Nat} {kcf : ClassId} {c0 c1 c2 c3 : Int32} (Acf : Ar Z h cf .int kcf [(.int c0), (.int c1), (.int c2), (.int c3)]) (qcf : cf < b) (hl0 : ¬ c0 < l0) (hu0 : ¬ u0 < c0) (hl1 : ¬ c1 < l1) (hu1 : ¬ u1 < c1) (hl2 : ¬ c2 < l2) (hu2 : ¬ u2 < c2) (hl3 : ¬ c3 < l3) (hu3 : ¬ u3 < c3) (hP0 : (((((0 : Int64) ||| (pt c0 l0 (0 : Int32))) ||| (pt c1 l1 s1)) ||| (pt c2 l2 s2)) ||| (pt c3 l3 s3)) = q0) (hhs : (hfin (hst (0 : Int64) q0 KM0)) = hs) (T : T1 vt g) (hg : (hfin (hst (0 : Int64) e0 KM0)) = g) (qpg : pk < pg) (Apg : Ar Z h pg .long kpg (.long e0 :: List.replicate 63 (.long (0 : Int64)))) :
    Met l Z n0 (⟨"com/example/invariant/invariant/check/ConfigurationStore", "add", "([I)I"⟩ : MethodName) prog_52_method_7_code 2 (some .int) [] ({ frames := 3, cells := 0, slots := 0, locals := 59 } : Room) #[(.ref b), (.ref cf)] h (fun v h' => ∃ (r : Int32) (sz' : Int32) (vt' vg : List Value), v = some (.int r) ∧ (r = 0 ∧ (q0 = e0) ∧ vg = (.long e0 :: List.replicate 63 (.long (0 : Int64))) ∨ r = 1 ∧ ¬ (q0 = e0) ∧ vg = (.long e0 :: .long q0 :: List.replicate 62 (.long (0 : Int64)))) ∧ Sto Z h' b pgs tb lo hi sh mk fi km pk kpgs ktb klo khi ksh kmk kfi kkm kpk (1 : Int32) (20 : Int32) sz' [(.ref pg)] vt' [(.int l0), (.int l1), (.int l2), (.int l3)] [(.int u0), (.int u1), (.int u2), (.int u3)] [(.int (0 : Int32)), (.int s1), (.int s2), (.int s3)] [(.long m0), (.long m1), (.long m2), (.long m3)] [(.int (0 : Int32)), (.int (4 : Int32))] [(.long KM0)] [(.long q0)] ∧ Ar Z h' pg .long kpg vg ∧ Keep h h' [b, tb, pk, pg]) := by
  refine met_of (Ls := #[(.val (.ref b)), (.val (.ref cf))]) (by decide +kernel) (fun m => by first | (simp [entryFrame, mkF, argsToLocals, Value.category]; done) | rfl) O ?_
  intro p e s m below meth cd C
  refine go_aloadN C (pc' := 1) d15_0 rfl rfl rfl ?_
  refine go_aloadN C (pc' := 2) d15_1 rfl rfl rfl ?_
  refine go_aconstNull C (pc' := 3) d15_2 rfl ?_
  refine go_callV C (pc' := 6) (y' := (⟨"com/example/invariant/invariant/check/ConfigurationStore", "add", "([ILjava/util/function/IntPredicate;)I"⟩ : MethodName)) (wd_80 hw) (wd_81 hw) (wd_83 hw) (wd_82 hw) (add2_1_1_met l Z a0 hw _ _ O S o Acf qcf hl0 hu0 hl1 hu1 hl2 hu2 hl3 hu3 hP0 hhs T hg qpg Apg) (wd_84 hw) (wd_13 hw) (by decide) (by decide) (W := 0) (Nat.le_of_ble_eq_true rfl) (by decide) (by decide) (by decide) rfl S.1 (argsL := [(.ref cf), .null]) (rest := []) pd_9 rfl rfl rfl d15_3 rfl ?_
  rintro _ h1 ⟨r, sz', vt', vg, rfl, hq⟩
  refine go_st (st' := [(.int r)]) rfl ?_
  exact go_retI C d15_6 (by decide) (by decide) ⟨r, sz', vt', vg, rfl, hq⟩
set_option maxRecDepth 65536 in
set_option maxHeartbeats 4000000 in
theorem pack2_met (l : Launch) (Z : State) (a0 : Array Value) (hw : ∀ d ∈ tables_1, d.before a0 Z = true) (n0 : Nat) (h : Heap) (O : Old Z n0 h)  {b pgs tb lo hi sh mk fi km pk : Nat} {kpgs ktb klo khi ksh kmk kfi kkm kpk : ClassId} {l0 u0 l1 u1 l2 u2 l3 u3 s1 s2 : Int32} {m0 m1 m2 m3 KM0 KM1 : Int64} {sz : Int32} {vp vt : List Value} {p0 p1 : Int64} (S : Sto Z h b pgs tb lo hi sh mk fi km pk kpgs ktb klo khi ksh kmk kfi kkm kpk (2 : Int32) (19 : Int32) sz vp vt [(.int l0), (.int l1), (.int l2), (.int l3)] [(.int u0), (.int u1), (.int u2), (.int u3)] [(.int (0 : Int32)), (.int s1), (.int s2), (.int (0 : Int32))] [(.long m0), (.long m1), (.long m2), (.long m3)] [(.int (0 : Int32)), (.int (3 : Int32)), (.int (4 : Int32))] [(.long KM0), (.long KM1)] [(.long p0), (.long p1)]) (o : Ord n0 b pgs tb lo hi sh mk fi km pk) {cf : Nat} {kcf : ClassId} {c0 c1 c2 c3 : Int32} (Acf : Ar Z h cf .int kcf [(.int c0), (.int c1), (.int c2), (.int c3)]) (qcf : cf < b) (hl0 : ¬ c0 < l0) (hu0 : ¬ u0 < c0) (hl1 : ¬ c1 < l1) (hu1 : ¬ u1 < c1) (hl2 : ¬ c2 < l2) (hu2 : ¬ u2 < c2) (hl3 : ¬ c3 < l3) (hu3 : ¬ u3 < c3) :
    Met l Z n0 (⟨"com/example/invariant/invariant/check/ConfigurationStore", "pack", "([I)I"⟩ : MethodName) prog_52_method_14_code 9 (some .int) [] ({ frames := 0, cells := 0, slots := 0, locals := 0 } : Room) #[(.ref b), (.ref cf)] h (fun v h' => v = some (.int (hfin (hst (hst (0 : Int64) ((((0 : Int64) ||| (pt c0 l0 (0 : Int32))) ||| (pt c1 l1 s1)) ||| (pt c2 l2 s2)) KM0) ((0 : Int64) ||| (pt c3 l3 (0 : Int32))) KM1))) ∧ Sto Z h' b pgs tb lo hi sh mk fi km pk kpgs ktb klo khi ksh kmk kfi kkm kpk (2 : Int32) (19 : Int32) sz vp vt [(.int l0), (.int l1), (.int l2), (.int l3)] [(.int u0), (.int u1), (.int u2), (.int u3)] [(.int (0 : Int32)), (.int s1), (.int s2), (.int (0 : Int32))] [(.long m0), (.long m1), (.long m2), (.long m3)] [(.int (0 : Int32)), (.int (3 : Int32)), (.int (4 : Int32))] [(.long KM0), (.long KM1)] [(.long ((((0 : Int64) ||| (pt c0 l0 (0 : Int32))) ||| (pt c1 l1 s1)) ||| (pt c2 l2 s2))), (.long ((0 : Int64) ||| (pt c3 l3 (0 : Int32))))] ∧ Keep h h' [pk]) := by
  refine met_of (Ls := #[(.val (.ref b)), (.val (.ref cf)), .unset, .unset, .unset, .unset, .unset, .unset, .unset]) (by decide +kernel) (fun m => by first | (simp [entryFrame, mkF, argsToLocals, Value.category]; done) | rfl) O ?_
  intro p e s m below meth cd C
  obtain ⟨o0, o1, o2, o3, o4, o5, o6, o7, o8, o9⟩ := o
  refine go_lconst C (pc' := 1) d7_0 (z := (0 : Int64)) (by decide) rfl ?_
  refine go_lstoreN C (pc' := 2) d7_1 (Ls' := #[(.val (.ref b)), (.val (.ref cf)), (.val (.long (0 : Int64))), .second, .unset, .unset, .unset, .unset, .unset]) rfl rfl ?_
  refine go_iconst C (pc' := 3) d7_2 (z := (0 : Int32)) (by decide) rfl ?_
  refine go_istore C (pc' := 5) d7_3 (Ls' := #[(.val (.ref b)), (.val (.ref cf)), (.val (.long (0 : Int64))), .second, (.val (.int (0 : Int32))), .unset, .unset, .unset, .unset]) rfl rfl ?_
  refine go_iload C (pc' := 7) d7_5 rfl rfl ?_
  refine go_aloadN C (pc' := 8) d7_7 rfl rfl rfl ?_
  refine gF C (pc' := 11) (wd_64 hw) S.2.2.2.2.1 d7_8 rfl ?_
  refine go_icmpNo C (pc' := 14) d7_11 (by decide) rfl ?_
  refine go_lconst C (pc' := 15) d7_14 (z := (0 : Int64)) (by decide) rfl ?_
  refine go_lstore C (pc' := 17) d7_15 (Ls' := #[(.val (.ref b)), (.val (.ref cf)), (.val (.long (0 : Int64))), .second, (.val (.int (0 : Int32))), (.val (.long (0 : Int64))), .second, .unset, .unset]) rfl rfl ?_
  refine go_aloadN C (pc' := 18) d7_17 rfl rfl rfl ?_
  refine gF C (pc' := 21) (wd_62 hw) S.2.2.2.1 d7_18 rfl ?_
  refine go_iload C (pc' := 23) d7_21 rfl rfl ?_
  refine go_iaget C (pc' := 24) S.2.2.2.2.2.2.2.2.2.2.2.2.2.2.2.2.2.2.2.1 (by decide) (i := 0) (by decide) rfl d7_23 rfl ?_
  refine go_istore C (pc' := 26) d7_24 (Ls' := #[(.val (.ref b)), (.val (.ref cf)), (.val (.long (0 : Int64))), .second, (.val (.int (0 : Int32))), (.val (.long (0 : Int64))), .second, (.val (.int (0 : Int32))), .unset]) rfl rfl ?_
  refine go_iload C (pc' := 28) d7_26 rfl rfl ?_
  refine go_aloadN C (pc' := 29) d7_28 rfl rfl rfl ?_
  refine gF C (pc' := 32) (wd_62 hw) S.2.2.2.1 d7_29 rfl ?_
  refine go_iload C (pc' := 34) d7_32 rfl rfl ?_
  refine go_iconst C (pc' := 35) d7_34 (z := (1 : Int32)) (by decide) rfl ?_
  refine go_iadd C (pc' := 36) d7_35 rfl ?_
  refine go_st (st' := [(.int (1 : Int32)), (.ref fi), (.int (0 : Int32))]) (by rw [show ((0 : Int32) + (1 : Int32)) = (1 : Int32) from by decide]) ?_
  refine go_iaget C (pc' := 37) S.2.2.2.2.2.2.2.2.2.2.2.2.2.2.2.2.2.2.2.1 (by decide) (i := 1) (by decide) rfl d7_36 rfl ?_
  refine go_icmpNo C (pc' := 40) d7_37 (by decide) rfl ?_
  refine go_aloadN C (pc' := 41) d7_40 rfl rfl rfl ?_
  refine go_iload C (pc' := 43) d7_41 rfl rfl ?_
  refine go_iaget C (pc' := 44) Acf (by decide) (i := 0) (by decide) rfl d7_43 rfl ?_
  refine go_istore C (pc' := 46) d7_44 (Ls' := #[(.val (.ref b)), (.val (.ref cf)), (.val (.long (0 : Int64))), .second, (.val (.int (0 : Int32))), (.val (.long (0 : Int64))), .second, (.val (.int (0 : Int32))), (.val (.int c0))]) rfl rfl ?_
  refine go_iload C (pc' := 48) d7_46 rfl rfl ?_
  refine go_aloadN C (pc' := 49) d7_48 rfl rfl rfl ?_
  refine gF C (pc' := 52) (wd_36 hw) S.2.1 d7_49 rfl ?_
  refine go_iload C (pc' := 54) d7_52 rfl rfl ?_
  refine go_iaget C (pc' := 55) S.2.2.2.2.2.2.2.2.2.2.2.2.2.2.2.1 (by decide) (i := 0) (by decide) rfl d7_54 rfl ?_
  refine go_icmpNo C (pc' := 58) d7_55 (flt hl0).1 rfl ?_
  refine go_iload C (pc' := 60) d7_58 rfl rfl ?_
  refine go_aloadN C (pc' := 61) d7_60 rfl rfl rfl ?_
  refine gF C (pc' := 64) (wd_38 hw) S.2.2.1 d7_61 rfl ?_
  refine go_iload C (pc' := 66) d7_64 rfl rfl ?_
  refine go_iaget C (pc' := 67) S.2.2.2.2.2.2.2.2.2.2.2.2.2.2.2.2.1 (by decide) (i := 0) (by decide) rfl d7_66 rfl ?_
  refine go_icmpYes C (pc' := 101) d7_67 (flt hu0).2.2.2 (by decide) (by decide) ?_
  refine go_lload C (pc' := 103) d7_101 rfl rfl ?_
  refine go_iload C (pc' := 105) d7_103 rfl rfl ?_
  refine go_i2l C (pc' := 106) d7_105 rfl ?_
  refine go_aloadN C (pc' := 107) d7_106 rfl rfl rfl ?_
  refine gF C (pc' := 110) (wd_36 hw) S.2.1 d7_107 rfl ?_
  refine go_iload C (pc' := 112) d7_110 rfl rfl ?_
  refine go_iaget C (pc' := 113) S.2.2.2.2.2.2.2.2.2.2.2.2.2.2.2.1 (by decide) (i := 0) (by decide) rfl d7_112 rfl ?_
  refine go_i2l C (pc' := 114) d7_113 rfl ?_
  refine go_lsub C (pc' := 115) d7_114 rfl ?_
  refine go_aloadN C (pc' := 116) d7_115 rfl rfl rfl ?_
  refine gF C (pc' := 119) (wd_40 hw) S.2.2.2.2.2.1 d7_116 rfl ?_
  refine go_iload C (pc' := 121) d7_119 rfl rfl ?_
  refine go_iaget C (pc' := 122) S.2.2.2.2.2.2.2.2.2.2.2.2.2.2.2.2.2.1 (by decide) (i := 0) (by decide) rfl d7_121 rfl ?_
  refine go_lshl C (pc' := 123) d7_122 rfl ?_
  refine go_lor C (pc' := 124) d7_123 rfl ?_
  refine go_lstore C (pc' := 126) d7_124 (Ls' := #[(.val (.ref b)), (.val (.ref cf)), (.val (.long (0 : Int64))), .second, (.val (.int (0 : Int32))), (.val (.long ((0 : Int64) ||| (((c0).toInt64 - (l0).toInt64) <<< ((0 : Int32) &&& 0x3f).toInt64)))), .second, (.val (.int (0 : Int32))), (.val (.int c0))]) rfl rfl ?_
  refine go_ls (Ls' := #[(.val (.ref b)), (.val (.ref cf)), (.val (.long (0 : Int64))), .second, (.val (.int (0 : Int32))), (.val (.long ((0 : Int64) ||| (pt c0 l0 (0 : Int32))))), .second, (.val (.int (0 : Int32))), (.val (.int c0))]) rfl ?_
  refine gI C (pc' := 129) d7_126 rfl (z := (1 : Int32)) (by decide) (Ls' := #[(.val (.ref b)), (.val (.ref cf)), (.val (.long (0 : Int64))), .second, (.val (.int (0 : Int32))), (.val (.long ((0 : Int64) ||| (pt c0 l0 (0 : Int32))))), .second, (.val (.int (1 : Int32))), (.val (.int c0))]) rfl rfl ?_
  refine go_goto C (pc' := 26) d7_129 (by decide) (by decide) ?_
  refine go_iload C (pc' := 28) d7_26 rfl rfl ?_
  refine go_aloadN C (pc' := 29) d7_28 rfl rfl rfl ?_
  refine gF C (pc' := 32) (wd_62 hw) S.2.2.2.1 d7_29 rfl ?_
  refine go_iload C (pc' := 34) d7_32 rfl rfl ?_
  refine go_iconst C (pc' := 35) d7_34 (z := (1 : Int32)) (by decide) rfl ?_
  refine go_iadd C (pc' := 36) d7_35 rfl ?_
  refine go_st (st' := [(.int (1 : Int32)), (.ref fi), (.int (1 : Int32))]) (by rw [show ((0 : Int32) + (1 : Int32)) = (1 : Int32) from by decide]) ?_
  refine go_iaget C (pc' := 37) S.2.2.2.2.2.2.2.2.2.2.2.2.2.2.2.2.2.2.2.1 (by decide) (i := 1) (by decide) rfl d7_36 rfl ?_
  refine go_icmpNo C (pc' := 40) d7_37 (by decide) rfl ?_
  refine go_aloadN C (pc' := 41) d7_40 rfl rfl rfl ?_
  refine go_iload C (pc' := 43) d7_41 rfl rfl ?_
  refine go_iaget C (pc' := 44) Acf (by decide) (i := 1) (by decide) rfl d7_43 rfl ?_
  refine go_istore C (pc' := 46) d7_44 (Ls' := #[(.val (.ref b)), (.val (.ref cf)), (.val (.long (0 : Int64))), .second, (.val (.int (0 : Int32))), (.val (.long ((0 : Int64) ||| (pt c0 l0 (0 : Int32))))), .second, (.val (.int (1 : Int32))), (.val (.int c1))]) rfl rfl ?_
  refine go_iload C (pc' := 48) d7_46 rfl rfl ?_
  refine go_aloadN C (pc' := 49) d7_48 rfl rfl rfl ?_
  refine gF C (pc' := 52) (wd_36 hw) S.2.1 d7_49 rfl ?_
  refine go_iload C (pc' := 54) d7_52 rfl rfl ?_
  refine go_iaget C (pc' := 55) S.2.2.2.2.2.2.2.2.2.2.2.2.2.2.2.1 (by decide) (i := 1) (by decide) rfl d7_54 rfl ?_
  refine go_icmpNo C (pc' := 58) d7_55 (flt hl1).1 rfl ?_
  refine go_iload C (pc' := 60) d7_58 rfl rfl ?_
  refine go_aloadN C (pc' := 61) d7_60 rfl rfl rfl ?_
  refine gF C (pc' := 64) (wd_38 hw) S.2.2.1 d7_61 rfl ?_
  refine go_iload C (pc' := 66) d7_64 rfl rfl ?_
  refine go_iaget C (pc' := 67) S.2.2.2.2.2.2.2.2.2.2.2.2.2.2.2.2.1 (by decide) (i := 1) (by decide) rfl d7_66 rfl ?_
  refine go_icmpYes C (pc' := 101) d7_67 (flt hu1).2.2.2 (by decide) (by decide) ?_
  refine go_lload C (pc' := 103) d7_101 rfl rfl ?_
  refine go_iload C (pc' := 105) d7_103 rfl rfl ?_
  refine go_i2l C (pc' := 106) d7_105 rfl ?_
  refine go_aloadN C (pc' := 107) d7_106 rfl rfl rfl ?_
  refine gF C (pc' := 110) (wd_36 hw) S.2.1 d7_107 rfl ?_
  refine go_iload C (pc' := 112) d7_110 rfl rfl ?_
  refine go_iaget C (pc' := 113) S.2.2.2.2.2.2.2.2.2.2.2.2.2.2.2.1 (by decide) (i := 1) (by decide) rfl d7_112 rfl ?_
  refine go_i2l C (pc' := 114) d7_113 rfl ?_
  refine go_lsub C (pc' := 115) d7_114 rfl ?_
  refine go_aloadN C (pc' := 116) d7_115 rfl rfl rfl ?_
  refine gF C (pc' := 119) (wd_40 hw) S.2.2.2.2.2.1 d7_116 rfl ?_
  refine go_iload C (pc' := 121) d7_119 rfl rfl ?_
  refine go_iaget C (pc' := 122) S.2.2.2.2.2.2.2.2.2.2.2.2.2.2.2.2.2.1 (by decide) (i := 1) (by decide) rfl d7_121 rfl ?_
  refine go_lshl C (pc' := 123) d7_122 rfl ?_
  refine go_lor C (pc' := 124) d7_123 rfl ?_
  refine go_lstore C (pc' := 126) d7_124 (Ls' := #[(.val (.ref b)), (.val (.ref cf)), (.val (.long (0 : Int64))), .second, (.val (.int (0 : Int32))), (.val (.long (((0 : Int64) ||| (pt c0 l0 (0 : Int32))) ||| (((c1).toInt64 - (l1).toInt64) <<< (s1 &&& 0x3f).toInt64)))), .second, (.val (.int (1 : Int32))), (.val (.int c1))]) rfl rfl ?_
  refine go_ls (Ls' := #[(.val (.ref b)), (.val (.ref cf)), (.val (.long (0 : Int64))), .second, (.val (.int (0 : Int32))), (.val (.long (((0 : Int64) ||| (pt c0 l0 (0 : Int32))) ||| (pt c1 l1 s1)))), .second, (.val (.int (1 : Int32))), (.val (.int c1))]) rfl ?_
  refine gI C (pc' := 129) d7_126 rfl (z := (2 : Int32)) (by decide) (Ls' := #[(.val (.ref b)), (.val (.ref cf)), (.val (.long (0 : Int64))), .second, (.val (.int (0 : Int32))), (.val (.long (((0 : Int64) ||| (pt c0 l0 (0 : Int32))) ||| (pt c1 l1 s1)))), .second, (.val (.int (2 : Int32))), (.val (.int c1))]) rfl rfl ?_
  refine go_goto C (pc' := 26) d7_129 (by decide) (by decide) ?_
  refine go_iload C (pc' := 28) d7_26 rfl rfl ?_
  refine go_aloadN C (pc' := 29) d7_28 rfl rfl rfl ?_
  refine gF C (pc' := 32) (wd_62 hw) S.2.2.2.1 d7_29 rfl ?_
  refine go_iload C (pc' := 34) d7_32 rfl rfl ?_
  refine go_iconst C (pc' := 35) d7_34 (z := (1 : Int32)) (by decide) rfl ?_
  refine go_iadd C (pc' := 36) d7_35 rfl ?_
  refine go_st (st' := [(.int (1 : Int32)), (.ref fi), (.int (2 : Int32))]) (by rw [show ((0 : Int32) + (1 : Int32)) = (1 : Int32) from by decide]) ?_
  refine go_iaget C (pc' := 37) S.2.2.2.2.2.2.2.2.2.2.2.2.2.2.2.2.2.2.2.1 (by decide) (i := 1) (by decide) rfl d7_36 rfl ?_
  refine go_icmpNo C (pc' := 40) d7_37 (by decide) rfl ?_
  refine go_aloadN C (pc' := 41) d7_40 rfl rfl rfl ?_
  refine go_iload C (pc' := 43) d7_41 rfl rfl ?_
  refine go_iaget C (pc' := 44) Acf (by decide) (i := 2) (by decide) rfl d7_43 rfl ?_
  refine go_istore C (pc' := 46) d7_44 (Ls' := #[(.val (.ref b)), (.val (.ref cf)), (.val (.long (0 : Int64))), .second, (.val (.int (0 : Int32))), (.val (.long (((0 : Int64) ||| (pt c0 l0 (0 : Int32))) ||| (pt c1 l1 s1)))), .second, (.val (.int (2 : Int32))), (.val (.int c2))]) rfl rfl ?_
  refine go_iload C (pc' := 48) d7_46 rfl rfl ?_
  refine go_aloadN C (pc' := 49) d7_48 rfl rfl rfl ?_
  refine gF C (pc' := 52) (wd_36 hw) S.2.1 d7_49 rfl ?_
  refine go_iload C (pc' := 54) d7_52 rfl rfl ?_
  refine go_iaget C (pc' := 55) S.2.2.2.2.2.2.2.2.2.2.2.2.2.2.2.1 (by decide) (i := 2) (by decide) rfl d7_54 rfl ?_
  refine go_icmpNo C (pc' := 58) d7_55 (flt hl2).1 rfl ?_
  refine go_iload C (pc' := 60) d7_58 rfl rfl ?_
  refine go_aloadN C (pc' := 61) d7_60 rfl rfl rfl ?_
  refine gF C (pc' := 64) (wd_38 hw) S.2.2.1 d7_61 rfl ?_
  refine go_iload C (pc' := 66) d7_64 rfl rfl ?_
  refine go_iaget C (pc' := 67) S.2.2.2.2.2.2.2.2.2.2.2.2.2.2.2.2.1 (by decide) (i := 2) (by decide) rfl d7_66 rfl ?_
  refine go_icmpYes C (pc' := 101) d7_67 (flt hu2).2.2.2 (by decide) (by decide) ?_
  refine go_lload C (pc' := 103) d7_101 rfl rfl ?_
  refine go_iload C (pc' := 105) d7_103 rfl rfl ?_
  refine go_i2l C (pc' := 106) d7_105 rfl ?_
  refine go_aloadN C (pc' := 107) d7_106 rfl rfl rfl ?_
  refine gF C (pc' := 110) (wd_36 hw) S.2.1 d7_107 rfl ?_
  refine go_iload C (pc' := 112) d7_110 rfl rfl ?_
  refine go_iaget C (pc' := 113) S.2.2.2.2.2.2.2.2.2.2.2.2.2.2.2.1 (by decide) (i := 2) (by decide) rfl d7_112 rfl ?_
  refine go_i2l C (pc' := 114) d7_113 rfl ?_
  refine go_lsub C (pc' := 115) d7_114 rfl ?_
  refine go_aloadN C (pc' := 116) d7_115 rfl rfl rfl ?_
  refine gF C (pc' := 119) (wd_40 hw) S.2.2.2.2.2.1 d7_116 rfl ?_
  refine go_iload C (pc' := 121) d7_119 rfl rfl ?_
  refine go_iaget C (pc' := 122) S.2.2.2.2.2.2.2.2.2.2.2.2.2.2.2.2.2.1 (by decide) (i := 2) (by decide) rfl d7_121 rfl ?_
  refine go_lshl C (pc' := 123) d7_122 rfl ?_
  refine go_lor C (pc' := 124) d7_123 rfl ?_
  refine go_lstore C (pc' := 126) d7_124 (Ls' := #[(.val (.ref b)), (.val (.ref cf)), (.val (.long (0 : Int64))), .second, (.val (.int (0 : Int32))), (.val (.long ((((0 : Int64) ||| (pt c0 l0 (0 : Int32))) ||| (pt c1 l1 s1)) ||| (((c2).toInt64 - (l2).toInt64) <<< (s2 &&& 0x3f).toInt64)))), .second, (.val (.int (2 : Int32))), (.val (.int c2))]) rfl rfl ?_
  refine go_ls (Ls' := #[(.val (.ref b)), (.val (.ref cf)), (.val (.long (0 : Int64))), .second, (.val (.int (0 : Int32))), (.val (.long ((((0 : Int64) ||| (pt c0 l0 (0 : Int32))) ||| (pt c1 l1 s1)) ||| (pt c2 l2 s2)))), .second, (.val (.int (2 : Int32))), (.val (.int c2))]) rfl ?_
  refine gI C (pc' := 129) d7_126 rfl (z := (3 : Int32)) (by decide) (Ls' := #[(.val (.ref b)), (.val (.ref cf)), (.val (.long (0 : Int64))), .second, (.val (.int (0 : Int32))), (.val (.long ((((0 : Int64) ||| (pt c0 l0 (0 : Int32))) ||| (pt c1 l1 s1)) ||| (pt c2 l2 s2)))), .second, (.val (.int (3 : Int32))), (.val (.int c2))]) rfl rfl ?_
  refine go_goto C (pc' := 26) d7_129 (by decide) (by decide) ?_
  refine go_iload C (pc' := 28) d7_26 rfl rfl ?_
  refine go_aloadN C (pc' := 29) d7_28 rfl rfl rfl ?_
  refine gF C (pc' := 32) (wd_62 hw) S.2.2.2.1 d7_29 rfl ?_
  refine go_iload C (pc' := 34) d7_32 rfl rfl ?_
  refine go_iconst C (pc' := 35) d7_34 (z := (1 : Int32)) (by decide) rfl ?_
  refine go_iadd C (pc' := 36) d7_35 rfl ?_
  refine go_st (st' := [(.int (1 : Int32)), (.ref fi), (.int (3 : Int32))]) (by rw [show ((0 : Int32) + (1 : Int32)) = (1 : Int32) from by decide]) ?_
  refine go_iaget C (pc' := 37) S.2.2.2.2.2.2.2.2.2.2.2.2.2.2.2.2.2.2.2.1 (by decide) (i := 1) (by decide) rfl d7_36 rfl ?_
  refine go_icmpYes C (pc' := 132) d7_37 (by decide) (by decide) (by decide) ?_
  refine go_aloadN C (pc' := 133) d7_132 rfl rfl rfl ?_
  refine gF C (pc' := 136) (wd_73 hw) S.2.2.2.2.2.2.2.2.2.2.2.2.1 d7_133 rfl ?_
  refine go_iload C (pc' := 138) d7_136 rfl rfl ?_
  refine go_lload C (pc' := 140) d7_138 rfl rfl ?_
  refine go_laset C (pc' := 141) S.2.2.2.2.2.2.2.2.2.2.2.2.2.2.2.2.2.2.2.2.2.1 (by decide) (i := 0) (by decide) (by simp) (vs' := [(.long ((((0 : Int64) ||| (pt c0 l0 (0 : Int32))) ||| (pt c1 l1 s1)) ||| (pt c2 l2 s2))), (.long p1)]) rfl d7_140 rfl (by omega) ?_
  intro h1 W1 A1
  refine go_old fun O1 => ?_
  refine go_lloadN C (pc' := 142) d7_141 rfl rfl ?_
  refine go_lload C (pc' := 144) d7_142 rfl rfl ?_
  refine go_aloadN C (pc' := 145) d7_144 rfl rfl rfl ?_
  refine gF C (pc' := 148) (wd_66 hw) (S.2.2.2.2.2.2.2.1.other W1 (Or.inl (ne_i (by omega)))) d7_145 rfl ?_
  refine go_iload C (pc' := 150) d7_148 rfl rfl ?_
  have fx2 := (S.2.2.2.2.2.2.2.2.2.2.2.2.2.2.2.2.2.2.2.2.1.other W1 (ne_i (by omega)))
  refine go_laget C (pc' := 151) fx2 (by decide) (i := 0) (by decide) rfl d7_150 rfl ?_
  refine go_land C (pc' := 152) d7_151 rfl ?_
  refine go_ladd C (pc' := 153) d7_152 rfl ?_
  refine go_ldcLong C (pc' := 156) (wd_89 hw) d7_153 rfl ?_
  refine go_lmul C (pc' := 157) d7_156 rfl ?_
  refine go_lstoreN C (pc' := 158) d7_157 (Ls' := #[(.val (.ref b)), (.val (.ref cf)), (.val (.long (((0 : Int64) + (((((0 : Int64) ||| (pt c0 l0 (0 : Int32))) ||| (pt c1 l1 s1)) ||| (pt c2 l2 s2)) &&& KM0)) * (-7046029254386353131 : Int64)))), .second, (.val (.int (0 : Int32))), (.val (.long ((((0 : Int64) ||| (pt c0 l0 (0 : Int32))) ||| (pt c1 l1 s1)) ||| (pt c2 l2 s2)))), .second, (.val (.int (3 : Int32))), (.val (.int c2))]) rfl rfl ?_
  refine go_ls (Ls' := #[(.val (.ref b)), (.val (.ref cf)), (.val (.long (hst (0 : Int64) ((((0 : Int64) ||| (pt c0 l0 (0 : Int32))) ||| (pt c1 l1 s1)) ||| (pt c2 l2 s2)) KM0))), .second, (.val (.int (0 : Int32))), (.val (.long ((((0 : Int64) ||| (pt c0 l0 (0 : Int32))) ||| (pt c1 l1 s1)) ||| (pt c2 l2 s2)))), .second, (.val (.int (3 : Int32))), (.val (.int c2))]) rfl ?_
  refine gI C (pc' := 161) d7_158 rfl (z := (1 : Int32)) (by decide) (Ls' := #[(.val (.ref b)), (.val (.ref cf)), (.val (.long (hst (0 : Int64) ((((0 : Int64) ||| (pt c0 l0 (0 : Int32))) ||| (pt c1 l1 s1)) ||| (pt c2 l2 s2)) KM0))), .second, (.val (.int (1 : Int32))), (.val (.long ((((0 : Int64) ||| (pt c0 l0 (0 : Int32))) ||| (pt c1 l1 s1)) ||| (pt c2 l2 s2)))), .second, (.val (.int (3 : Int32))), (.val (.int c2))]) rfl rfl ?_
  refine go_goto C (pc' := 5) d7_161 (by decide) (by decide) ?_
  refine go_iload C (pc' := 7) d7_5 rfl rfl ?_
  refine go_aloadN C (pc' := 8) d7_7 rfl rfl rfl ?_
  refine gF C (pc' := 11) (wd_64 hw) (S.2.2.2.2.1.other W1 (Or.inl (ne_i (by omega)))) d7_8 rfl ?_
  refine go_icmpNo C (pc' := 14) d7_11 (by decide) rfl ?_
  refine go_lconst C (pc' := 15) d7_14 (z := (0 : Int64)) (by decide) rfl ?_
  refine go_lstore C (pc' := 17) d7_15 (Ls' := #[(.val (.ref b)), (.val (.ref cf)), (.val (.long (hst (0 : Int64) ((((0 : Int64) ||| (pt c0 l0 (0 : Int32))) ||| (pt c1 l1 s1)) ||| (pt c2 l2 s2)) KM0))), .second, (.val (.int (1 : Int32))), (.val (.long (0 : Int64))), .second, (.val (.int (3 : Int32))), (.val (.int c2))]) rfl rfl ?_
  refine go_aloadN C (pc' := 18) d7_17 rfl rfl rfl ?_
  refine gF C (pc' := 21) (wd_62 hw) (S.2.2.2.1.other W1 (Or.inl (ne_i (by omega)))) d7_18 rfl ?_
  refine go_iload C (pc' := 23) d7_21 rfl rfl ?_
  refine go_iaget C (pc' := 24) (S.2.2.2.2.2.2.2.2.2.2.2.2.2.2.2.2.2.2.2.1.other W1 (ne_i (by omega))) (by decide) (i := 1) (by decide) rfl d7_23 rfl ?_
  refine go_istore C (pc' := 26) d7_24 (Ls' := #[(.val (.ref b)), (.val (.ref cf)), (.val (.long (hst (0 : Int64) ((((0 : Int64) ||| (pt c0 l0 (0 : Int32))) ||| (pt c1 l1 s1)) ||| (pt c2 l2 s2)) KM0))), .second, (.val (.int (1 : Int32))), (.val (.long (0 : Int64))), .second, (.val (.int (3 : Int32))), (.val (.int c2))]) rfl rfl ?_
  refine go_iload C (pc' := 28) d7_26 rfl rfl ?_
  refine go_aloadN C (pc' := 29) d7_28 rfl rfl rfl ?_
  refine gF C (pc' := 32) (wd_62 hw) (S.2.2.2.1.other W1 (Or.inl (ne_i (by omega)))) d7_29 rfl ?_
  refine go_iload C (pc' := 34) d7_32 rfl rfl ?_
  refine go_iconst C (pc' := 35) d7_34 (z := (1 : Int32)) (by decide) rfl ?_
  refine go_iadd C (pc' := 36) d7_35 rfl ?_
  refine go_st (st' := [(.int (2 : Int32)), (.ref fi), (.int (3 : Int32))]) (by rw [show ((1 : Int32) + (1 : Int32)) = (2 : Int32) from by decide]) ?_
  refine go_iaget C (pc' := 37) (S.2.2.2.2.2.2.2.2.2.2.2.2.2.2.2.2.2.2.2.1.other W1 (ne_i (by omega))) (by decide) (i := 2) (by decide) rfl d7_36 rfl ?_
  refine go_icmpNo C (pc' := 40) d7_37 (by decide) rfl ?_
  refine go_aloadN C (pc' := 41) d7_40 rfl rfl rfl ?_
  refine go_iload C (pc' := 43) d7_41 rfl rfl ?_
  refine go_iaget C (pc' := 44) (Acf.other W1 (ne_i (by omega))) (by decide) (i := 3) (by decide) rfl d7_43 rfl ?_
  refine go_istore C (pc' := 46) d7_44 (Ls' := #[(.val (.ref b)), (.val (.ref cf)), (.val (.long (hst (0 : Int64) ((((0 : Int64) ||| (pt c0 l0 (0 : Int32))) ||| (pt c1 l1 s1)) ||| (pt c2 l2 s2)) KM0))), .second, (.val (.int (1 : Int32))), (.val (.long (0 : Int64))), .second, (.val (.int (3 : Int32))), (.val (.int c3))]) rfl rfl ?_
  refine go_iload C (pc' := 48) d7_46 rfl rfl ?_
  refine go_aloadN C (pc' := 49) d7_48 rfl rfl rfl ?_
  refine gF C (pc' := 52) (wd_36 hw) (S.2.1.other W1 (Or.inl (ne_i (by omega)))) d7_49 rfl ?_
  refine go_iload C (pc' := 54) d7_52 rfl rfl ?_
  refine go_iaget C (pc' := 55) (S.2.2.2.2.2.2.2.2.2.2.2.2.2.2.2.1.other W1 (ne_i (by omega))) (by decide) (i := 3) (by decide) rfl d7_54 rfl ?_
  refine go_icmpNo C (pc' := 58) d7_55 (flt hl3).1 rfl ?_
  refine go_iload C (pc' := 60) d7_58 rfl rfl ?_
  refine go_aloadN C (pc' := 61) d7_60 rfl rfl rfl ?_
  refine gF C (pc' := 64) (wd_38 hw) (S.2.2.1.other W1 (Or.inl (ne_i (by omega)))) d7_61 rfl ?_
  refine go_iload C (pc' := 66) d7_64 rfl rfl ?_
  refine go_iaget C (pc' := 67) (S.2.2.2.2.2.2.2.2.2.2.2.2.2.2.2.2.1.other W1 (ne_i (by omega))) (by decide) (i := 3) (by decide) rfl d7_66 rfl ?_
  refine go_icmpYes C (pc' := 101) d7_67 (flt hu3).2.2.2 (by decide) (by decide) ?_
  refine go_lload C (pc' := 103) d7_101 rfl rfl ?_
  refine go_iload C (pc' := 105) d7_103 rfl rfl ?_
  refine go_i2l C (pc' := 106) d7_105 rfl ?_
  refine go_aloadN C (pc' := 107) d7_106 rfl rfl rfl ?_
  refine gF C (pc' := 110) (wd_36 hw) (S.2.1.other W1 (Or.inl (ne_i (by omega)))) d7_107 rfl ?_
  refine go_iload C (pc' := 112) d7_110 rfl rfl ?_
  refine go_iaget C (pc' := 113) (S.2.2.2.2.2.2.2.2.2.2.2.2.2.2.2.1.other W1 (ne_i (by omega))) (by decide) (i := 3) (by decide) rfl d7_112 rfl ?_
  refine go_i2l C (pc' := 114) d7_113 rfl ?_
  refine go_lsub C (pc' := 115) d7_114 rfl ?_
  refine go_aloadN C (pc' := 116) d7_115 rfl rfl rfl ?_
  refine gF C (pc' := 119) (wd_40 hw) (S.2.2.2.2.2.1.other W1 (Or.inl (ne_i (by omega)))) d7_116 rfl ?_
  refine go_iload C (pc' := 121) d7_119 rfl rfl ?_
  refine go_iaget C (pc' := 122) (S.2.2.2.2.2.2.2.2.2.2.2.2.2.2.2.2.2.1.other W1 (ne_i (by omega))) (by decide) (i := 3) (by decide) rfl d7_121 rfl ?_
  refine go_lshl C (pc' := 123) d7_122 rfl ?_
  refine go_lor C (pc' := 124) d7_123 rfl ?_
  refine go_lstore C (pc' := 126) d7_124 (Ls' := #[(.val (.ref b)), (.val (.ref cf)), (.val (.long (hst (0 : Int64) ((((0 : Int64) ||| (pt c0 l0 (0 : Int32))) ||| (pt c1 l1 s1)) ||| (pt c2 l2 s2)) KM0))), .second, (.val (.int (1 : Int32))), (.val (.long ((0 : Int64) ||| (((c3).toInt64 - (l3).toInt64) <<< ((0 : Int32) &&& 0x3f).toInt64)))), .second, (.val (.int (3 : Int32))), (.val (.int c3))]) rfl rfl ?_
  refine go_ls (Ls' := #[(.val (.ref b)), (.val (.ref cf)), (.val (.long (hst (0 : Int64) ((((0 : Int64) ||| (pt c0 l0 (0 : Int32))) ||| (pt c1 l1 s1)) ||| (pt c2 l2 s2)) KM0))), .second, (.val (.int (1 : Int32))), (.val (.long ((0 : Int64) ||| (pt c3 l3 (0 : Int32))))), .second, (.val (.int (3 : Int32))), (.val (.int c3))]) rfl ?_
  refine gI C (pc' := 129) d7_126 rfl (z := (4 : Int32)) (by decide) (Ls' := #[(.val (.ref b)), (.val (.ref cf)), (.val (.long (hst (0 : Int64) ((((0 : Int64) ||| (pt c0 l0 (0 : Int32))) ||| (pt c1 l1 s1)) ||| (pt c2 l2 s2)) KM0))), .second, (.val (.int (1 : Int32))), (.val (.long ((0 : Int64) ||| (pt c3 l3 (0 : Int32))))), .second, (.val (.int (4 : Int32))), (.val (.int c3))]) rfl rfl ?_
  refine go_goto C (pc' := 26) d7_129 (by decide) (by decide) ?_
  refine go_iload C (pc' := 28) d7_26 rfl rfl ?_
  refine go_aloadN C (pc' := 29) d7_28 rfl rfl rfl ?_
  refine gF C (pc' := 32) (wd_62 hw) (S.2.2.2.1.other W1 (Or.inl (ne_i (by omega)))) d7_29 rfl ?_
  refine go_iload C (pc' := 34) d7_32 rfl rfl ?_
  refine go_iconst C (pc' := 35) d7_34 (z := (1 : Int32)) (by decide) rfl ?_
  refine go_iadd C (pc' := 36) d7_35 rfl ?_
  refine go_st (st' := [(.int (2 : Int32)), (.ref fi), (.int (4 : Int32))]) (by rw [show ((1 : Int32) + (1 : Int32)) = (2 : Int32) from by decide]) ?_
  refine go_iaget C (pc' := 37) (S.2.2.2.2.2.2.2.2.2.2.2.2.2.2.2.2.2.2.2.1.other W1 (ne_i (by omega))) (by decide) (i := 2) (by decide) rfl d7_36 rfl ?_
  refine go_icmpYes C (pc' := 132) d7_37 (by decide) (by decide) (by decide) ?_
  refine go_aloadN C (pc' := 133) d7_132 rfl rfl rfl ?_
  refine gF C (pc' := 136) (wd_73 hw) (S.2.2.2.2.2.2.2.2.2.2.2.2.1.other W1 (Or.inl (ne_i (by omega)))) d7_133 rfl ?_
  refine go_iload C (pc' := 138) d7_136 rfl rfl ?_
  refine go_lload C (pc' := 140) d7_138 rfl rfl ?_
  refine go_laset C (pc' := 141) A1 (by decide) (i := 1) (by decide) (by simp) (vs' := [(.long ((((0 : Int64) ||| (pt c0 l0 (0 : Int32))) ||| (pt c1 l1 s1)) ||| (pt c2 l2 s2))), (.long ((0 : Int64) ||| (pt c3 l3 (0 : Int32))))]) rfl d7_140 rfl (by omega) ?_
  intro h3 W3 A3
  refine go_old fun O3 => ?_
  refine go_lloadN C (pc' := 142) d7_141 rfl rfl ?_
  refine go_lload C (pc' := 144) d7_142 rfl rfl ?_
  refine go_aloadN C (pc' := 145) d7_144 rfl rfl rfl ?_
  have fx4 := ((S.2.2.2.2.2.2.2.1.other W1 (Or.inl (ne_i (by omega)))).other W3 (Or.inl (ne_i (by omega))))
  refine gF C (pc' := 148) (wd_66 hw) fx4 d7_145 rfl ?_
  refine go_iload C (pc' := 150) d7_148 rfl rfl ?_
  refine go_laget C (pc' := 151) (fx2.other W3 (ne_i (by omega))) (by decide) (i := 1) (by decide) rfl d7_150 rfl ?_
  refine go_land C (pc' := 152) d7_151 rfl ?_
  refine go_ladd C (pc' := 153) d7_152 rfl ?_
  refine go_ldcLong C (pc' := 156) (wd_89 hw) d7_153 rfl ?_
  refine go_lmul C (pc' := 157) d7_156 rfl ?_
  refine go_lstoreN C (pc' := 158) d7_157 (Ls' := #[(.val (.ref b)), (.val (.ref cf)), (.val (.long (((hst (0 : Int64) ((((0 : Int64) ||| (pt c0 l0 (0 : Int32))) ||| (pt c1 l1 s1)) ||| (pt c2 l2 s2)) KM0) + (((0 : Int64) ||| (pt c3 l3 (0 : Int32))) &&& KM1)) * (-7046029254386353131 : Int64)))), .second, (.val (.int (1 : Int32))), (.val (.long ((0 : Int64) ||| (pt c3 l3 (0 : Int32))))), .second, (.val (.int (4 : Int32))), (.val (.int c3))]) rfl rfl ?_
  refine go_ls (Ls' := #[(.val (.ref b)), (.val (.ref cf)), (.val (.long (hst (hst (0 : Int64) ((((0 : Int64) ||| (pt c0 l0 (0 : Int32))) ||| (pt c1 l1 s1)) ||| (pt c2 l2 s2)) KM0) ((0 : Int64) ||| (pt c3 l3 (0 : Int32))) KM1))), .second, (.val (.int (1 : Int32))), (.val (.long ((0 : Int64) ||| (pt c3 l3 (0 : Int32))))), .second, (.val (.int (4 : Int32))), (.val (.int c3))]) rfl ?_
  refine gI C (pc' := 161) d7_158 rfl (z := (2 : Int32)) (by decide) (Ls' := #[(.val (.ref b)), (.val (.ref cf)), (.val (.long (hst (hst (0 : Int64) ((((0 : Int64) ||| (pt c0 l0 (0 : Int32))) ||| (pt c1 l1 s1)) ||| (pt c2 l2 s2)) KM0) ((0 : Int64) ||| (pt c3 l3 (0 : Int32))) KM1))), .second, (.val (.int (2 : Int32))), (.val (.long ((0 : Int64) ||| (pt c3 l3 (0 : Int32))))), .second, (.val (.int (4 : Int32))), (.val (.int c3))]) rfl rfl ?_
  refine go_goto C (pc' := 5) d7_161 (by decide) (by decide) ?_
  refine go_iload C (pc' := 7) d7_5 rfl rfl ?_
  refine go_aloadN C (pc' := 8) d7_7 rfl rfl rfl ?_
  have fx5 := ((S.2.2.2.2.1.other W1 (Or.inl (ne_i (by omega)))).other W3 (Or.inl (ne_i (by omega))))
  refine gF C (pc' := 11) (wd_64 hw) fx5 d7_8 rfl ?_
  refine go_icmpYes C (pc' := 164) d7_11 (by decide) (by decide) (by decide) ?_
  refine go_lloadN C (pc' := 165) d7_164 rfl rfl ?_
  refine go_lloadN C (pc' := 166) d7_165 rfl rfl ?_
  refine go_bipush C (pc' := 168) d7_166 (z := (33 : Int32)) (by decide) rfl ?_
  refine go_lushr C (pc' := 169) d7_168 rfl ?_
  refine go_lxor C (pc' := 170) d7_169 rfl ?_
  refine go_lstoreN C (pc' := 171) d7_170 (Ls' := #[(.val (.ref b)), (.val (.ref cf)), (.val (.long ((hst (hst (0 : Int64) ((((0 : Int64) ||| (pt c0 l0 (0 : Int32))) ||| (pt c1 l1 s1)) ||| (pt c2 l2 s2)) KM0) ((0 : Int64) ||| (pt c3 l3 (0 : Int32))) KM1) ^^^ (((hst (hst (0 : Int64) ((((0 : Int64) ||| (pt c0 l0 (0 : Int32))) ||| (pt c1 l1 s1)) ||| (pt c2 l2 s2)) KM0) ((0 : Int64) ||| (pt c3 l3 (0 : Int32))) KM1)).toUInt64 >>> ((33 : Int32) &&& 0x3f).toInt64.toUInt64).toInt64))), .second, (.val (.int (2 : Int32))), (.val (.long ((0 : Int64) ||| (pt c3 l3 (0 : Int32))))), .second, (.val (.int (4 : Int32))), (.val (.int c3))]) rfl rfl ?_
  refine go_ls (Ls' := #[(.val (.ref b)), (.val (.ref cf)), (.val (.long (hx (hst (hst (0 : Int64) ((((0 : Int64) ||| (pt c0 l0 (0 : Int32))) ||| (pt c1 l1 s1)) ||| (pt c2 l2 s2)) KM0) ((0 : Int64) ||| (pt c3 l3 (0 : Int32))) KM1)))), .second, (.val (.int (2 : Int32))), (.val (.long ((0 : Int64) ||| (pt c3 l3 (0 : Int32))))), .second, (.val (.int (4 : Int32))), (.val (.int c3))]) rfl ?_
  refine go_lloadN C (pc' := 172) d7_171 rfl rfl ?_
  refine go_ldcLong C (pc' := 175) (wd_90 hw) d7_172 rfl ?_
  refine go_lmul C (pc' := 176) d7_175 rfl ?_
  refine go_lstoreN C (pc' := 177) d7_176 (Ls' := #[(.val (.ref b)), (.val (.ref cf)), (.val (.long ((hx (hst (hst (0 : Int64) ((((0 : Int64) ||| (pt c0 l0 (0 : Int32))) ||| (pt c1 l1 s1)) ||| (pt c2 l2 s2)) KM0) ((0 : Int64) ||| (pt c3 l3 (0 : Int32))) KM1)) * (-49064778989728563 : Int64)))), .second, (.val (.int (2 : Int32))), (.val (.long ((0 : Int64) ||| (pt c3 l3 (0 : Int32))))), .second, (.val (.int (4 : Int32))), (.val (.int c3))]) rfl rfl ?_
  refine go_lloadN C (pc' := 178) d7_177 rfl rfl ?_
  refine go_lloadN C (pc' := 179) d7_178 rfl rfl ?_
  refine go_bipush C (pc' := 181) d7_179 (z := (33 : Int32)) (by decide) rfl ?_
  refine go_lushr C (pc' := 182) d7_181 rfl ?_
  refine go_lxor C (pc' := 183) d7_182 rfl ?_
  refine go_lstoreN C (pc' := 184) d7_183 (Ls' := #[(.val (.ref b)), (.val (.ref cf)), (.val (.long (((hx (hst (hst (0 : Int64) ((((0 : Int64) ||| (pt c0 l0 (0 : Int32))) ||| (pt c1 l1 s1)) ||| (pt c2 l2 s2)) KM0) ((0 : Int64) ||| (pt c3 l3 (0 : Int32))) KM1)) * (-49064778989728563 : Int64)) ^^^ ((((hx (hst (hst (0 : Int64) ((((0 : Int64) ||| (pt c0 l0 (0 : Int32))) ||| (pt c1 l1 s1)) ||| (pt c2 l2 s2)) KM0) ((0 : Int64) ||| (pt c3 l3 (0 : Int32))) KM1)) * (-49064778989728563 : Int64))).toUInt64 >>> ((33 : Int32) &&& 0x3f).toInt64.toUInt64).toInt64))), .second, (.val (.int (2 : Int32))), (.val (.long ((0 : Int64) ||| (pt c3 l3 (0 : Int32))))), .second, (.val (.int (4 : Int32))), (.val (.int c3))]) rfl rfl ?_
  refine go_ls (Ls' := #[(.val (.ref b)), (.val (.ref cf)), (.val (.long (hx ((hx (hst (hst (0 : Int64) ((((0 : Int64) ||| (pt c0 l0 (0 : Int32))) ||| (pt c1 l1 s1)) ||| (pt c2 l2 s2)) KM0) ((0 : Int64) ||| (pt c3 l3 (0 : Int32))) KM1)) * (-49064778989728563 : Int64))))), .second, (.val (.int (2 : Int32))), (.val (.long ((0 : Int64) ||| (pt c3 l3 (0 : Int32))))), .second, (.val (.int (4 : Int32))), (.val (.int c3))]) rfl ?_
  refine go_lloadN C (pc' := 185) d7_184 rfl rfl ?_
  refine go_l2i C (pc' := 186) d7_185 rfl ?_
  have fx6 := ((S.2.1.other W1 (Or.inl (ne_i (by omega)))).other W3 (Or.inl (ne_i (by omega))))
  have fx7 := ((S.2.2.1.other W1 (Or.inl (ne_i (by omega)))).other W3 (Or.inl (ne_i (by omega))))
  have fx8 := ((S.2.2.2.1.other W1 (Or.inl (ne_i (by omega)))).other W3 (Or.inl (ne_i (by omega))))
  have fx9 := ((S.2.2.2.2.2.1.other W1 (Or.inl (ne_i (by omega)))).other W3 (Or.inl (ne_i (by omega))))
  have fx10 := ((S.2.2.2.2.2.2.1.other W1 (Or.inl (ne_i (by omega)))).other W3 (Or.inl (ne_i (by omega))))
  have fx11 := ((S.2.2.2.2.2.2.2.2.1.other W1 (Or.inl (ne_i (by omega)))).other W3 (Or.inl (ne_i (by omega))))
  have fx12 := ((S.2.2.2.2.2.2.2.2.2.1.other W1 (Or.inl (ne_i (by omega)))).other W3 (Or.inl (ne_i (by omega))))
  have fx13 := ((S.2.2.2.2.2.2.2.2.2.2.1.other W1 (Or.inl (ne_i (by omega)))).other W3 (Or.inl (ne_i (by omega))))
  have fx14 := ((S.2.2.2.2.2.2.2.2.2.2.2.1.other W1 (Or.inl (ne_i (by omega)))).other W3 (Or.inl (ne_i (by omega))))
  have fx15 := ((S.2.2.2.2.2.2.2.2.2.2.2.2.1.other W1 (Or.inl (ne_i (by omega)))).other W3 (Or.inl (ne_i (by omega))))
  have fx16 := ((S.2.2.2.2.2.2.2.2.2.2.2.2.2.1.other W1 (ne_i (by omega))).other W3 (ne_i (by omega)))
  have fx17 := ((S.2.2.2.2.2.2.2.2.2.2.2.2.2.2.1.other W1 (ne_i (by omega))).other W3 (ne_i (by omega)))
  have fx18 := ((S.2.2.2.2.2.2.2.2.2.2.2.2.2.2.2.1.other W1 (ne_i (by omega))).other W3 (ne_i (by omega)))
  have fx19 := ((S.2.2.2.2.2.2.2.2.2.2.2.2.2.2.2.2.1.other W1 (ne_i (by omega))).other W3 (ne_i (by omega)))
  have fx20 := ((S.2.2.2.2.2.2.2.2.2.2.2.2.2.2.2.2.2.1.other W1 (ne_i (by omega))).other W3 (ne_i (by omega)))
  have fx21 := ((S.2.2.2.2.2.2.2.2.2.2.2.2.2.2.2.2.2.2.1.other W1 (ne_i (by omega))).other W3 (ne_i (by omega)))
  have fx22 := ((S.2.2.2.2.2.2.2.2.2.2.2.2.2.2.2.2.2.2.2.1.other W1 (ne_i (by omega))).other W3 (ne_i (by omega)))
  exact go_retI C d7_186 (by decide) (by decide) ⟨rfl, ⟨((S.1.wr W1).wr W3), fx6, fx7, fx8, fx5, fx9, fx10, fx4, fx11, fx12, fx13, fx14, fx15, fx16, fx17, fx18, fx19, fx20, fx21, fx22, (fx2.other W3 (ne_i (by omega))), A3, S.2.2.2.2.2.2.2.2.2.2.2.2.2.2.2.2.2.2.2.2.2.2⟩, (((Keep.refl _ [pk]).wr W1 (Or.inl (by simp))).wr W3 (Or.inl (by simp)))⟩
set_option maxRecDepth 65536 in
set_option maxHeartbeats 4000000 in
theorem holds2_met (l : Launch) (Z : State) (a0 : Array Value) (hw : ∀ d ∈ tables_1, d.before a0 Z = true) (n0 : Nat) (h : Heap) (O : Old Z n0 h)  {b pgs tb lo hi sh mk fi km pk : Nat} {kpgs ktb klo khi ksh kmk kfi kkm kpk : ClassId} {l0 u0 l1 u1 l2 u2 l3 u3 s1 s2 : Int32} {m0 m1 m2 m3 KM0 KM1 : Int64} {pg : Nat} {kpg : ClassId} {sz : Int32} {vt vr : List Value} {p0 e0 p1 e1 en : Int64} (hs : Int32) (S : Sto Z h b pgs tb lo hi sh mk fi km pk kpgs ktb klo khi ksh kmk kfi kkm kpk (2 : Int32) (19 : Int32) sz [(.ref pg)] vt [(.int l0), (.int l1), (.int l2), (.int l3)] [(.int u0), (.int u1), (.int u2), (.int u3)] [(.int (0 : Int32)), (.int s1), (.int s2), (.int (0 : Int32))] [(.long m0), (.long m1), (.long m2), (.long m3)] [(.int (0 : Int32)), (.int (3 : Int32)), (.int (4 : Int32))] [(.long KM0), (.long KM1)] [(.long p0), (.long p1)]) (Apg : Ar Z h pg .long kpg (.long e0 :: .long e1 :: vr)) (hn : (en.toInt32 - (1 : Int32)) = 0) :
    Met l Z n0 (⟨"com/example/invariant/invariant/check/ConfigurationStore", "holdsPacked", "(JI)Z"⟩ : MethodName) prog_52_method_16_code 8 (some .boolean) [] ({ frames := 0, cells := 0, slots := 0, locals := 0 } : Room) #[(.ref b), (.long en), (.int hs)] h (fun v h' => ∃ r : Int32, v = some (.int r) ∧ h = h' ∧ (r = 1 ∧ (hi32 en = hs ∧ e0 = p0 ∧ e1 = p1) ∨ r = 0 ∧ ¬ (hi32 en = hs ∧ e0 = p0 ∧ e1 = p1))) := by
  refine met_of (Ls := #[(.val (.ref b)), (.val (.long en)), .second, (.val (.int hs)), .unset, .unset, .unset, .unset]) (by decide +kernel) (fun m => by first | (simp [entryFrame, mkF, argsToLocals, Value.category]; done) | rfl) O ?_
  intro p e s m below meth cd C
  refine go_lloadN C (pc' := 1) d8_0 rfl rfl ?_
  refine go_bipush C (pc' := 3) d8_1 (z := (32 : Int32)) (by decide) rfl ?_
  refine go_lushr C (pc' := 4) d8_3 rfl ?_
  refine go_l2i C (pc' := 5) d8_4 rfl ?_
  refine go_iloadN C (pc' := 6) d8_5 rfl rfl ?_
  by_cases hc1 : (((en).toUInt64 >>> ((32 : Int32) &&& 0x3f).toInt64.toUInt64).toInt64).toInt32 = hs
  · refine go_icmpYes C (pc' := 11) d8_6 (teq hc1).1 (by decide) (by decide) ?_
    refine go_lloadN C (pc' := 12) d8_11 rfl rfl ?_
    refine go_l2i C (pc' := 13) d8_12 rfl ?_
    refine go_iconst C (pc' := 14) d8_13 (z := (1 : Int32)) (by decide) rfl ?_
    refine go_isub C (pc' := 15) d8_14 rfl ?_
    refine go_st (st' := [(.int (0 : Int32))]) (by rw [hn]) ?_
    refine go_istore C (pc' := 17) d8_15 (Ls' := #[(.val (.ref b)), (.val (.long en)), .second, (.val (.int hs)), (.val (.int (0 : Int32))), .unset, .unset, .unset]) rfl rfl ?_
    refine go_aloadN C (pc' := 18) d8_17 rfl rfl rfl ?_
    refine gF C (pc' := 21) (wd_22 hw) S.2.2.2.2.2.2.2.2.2.1 d8_18 rfl ?_
    refine go_iload C (pc' := 23) d8_21 rfl rfl ?_
    refine go_aloadN C (pc' := 24) d8_23 rfl rfl rfl ?_
    refine gF C (pc' := 27) (wd_71 hw) S.2.2.2.2.2.2.2.2.1 d8_24 rfl ?_
    refine go_iushr C (pc' := 28) d8_27 rfl ?_
    refine go_st (st' := [(.int (0 : Int32)), (.ref pgs)]) (by rw [show (((0 : Int32)).toUInt32 >>> ((19 : Int32) &&& 31).toUInt32).toInt32 = (0 : Int32) from by decide]) ?_
    refine go_raget C (pc' := 29) S.2.2.2.2.2.2.2.2.2.2.2.2.2.1 rfl (by decide) (i := 0) (by decide) rfl d8_28 rfl ?_
    refine go_astore C (pc' := 31) d8_29 rfl (Ls' := #[(.val (.ref b)), (.val (.long en)), .second, (.val (.int hs)), (.val (.int (0 : Int32))), (.val (.ref pg)), .unset, .unset]) rfl rfl ?_
    refine go_iload C (pc' := 33) d8_31 rfl rfl ?_
    refine go_iconst C (pc' := 34) d8_33 (z := (1 : Int32)) (by decide) rfl ?_
    refine go_aloadN C (pc' := 35) d8_34 rfl rfl rfl ?_
    refine gF C (pc' := 38) (wd_71 hw) S.2.2.2.2.2.2.2.2.1 d8_35 rfl ?_
    refine go_ishl C (pc' := 39) d8_38 rfl ?_
    refine go_st (st' := [(.int (524288 : Int32)), (.int (0 : Int32))]) (by rw [show ((1 : Int32) <<< ((19 : Int32) &&& 31)) = (524288 : Int32) from by decide]) ?_
    refine go_iconst C (pc' := 40) d8_39 (z := (1 : Int32)) (by decide) rfl ?_
    refine go_isub C (pc' := 41) d8_40 rfl ?_
    refine go_st (st' := [(.int (524287 : Int32)), (.int (0 : Int32))]) (by rw [show ((524288 : Int32) - (1 : Int32)) = (524287 : Int32) from by decide]) ?_
    refine go_iand C (pc' := 42) d8_41 rfl ?_
    refine go_st (st' := [(.int (0 : Int32))]) (by rw [show ((0 : Int32) &&& (524287 : Int32)) = (0 : Int32) from by decide]) ?_
    refine go_aloadN C (pc' := 43) d8_42 rfl rfl rfl ?_
    refine gF C (pc' := 46) (wd_64 hw) S.2.2.2.2.1 d8_43 rfl ?_
    refine go_imul C (pc' := 47) d8_46 rfl ?_
    refine go_st (st' := [(.int (0 : Int32))]) (by rw [show ((0 : Int32) * (2 : Int32)) = (0 : Int32) from by decide]) ?_
    refine go_istore C (pc' := 49) d8_47 (Ls' := #[(.val (.ref b)), (.val (.long en)), .second, (.val (.int hs)), (.val (.int (0 : Int32))), (.val (.ref pg)), (.val (.int (0 : Int32))), .unset]) rfl rfl ?_
    refine go_iconst C (pc' := 50) d8_49 (z := (0 : Int32)) (by decide) rfl ?_
    refine go_istore C (pc' := 52) d8_50 (Ls' := #[(.val (.ref b)), (.val (.long en)), .second, (.val (.int hs)), (.val (.int (0 : Int32))), (.val (.ref pg)), (.val (.int (0 : Int32))), (.val (.int (0 : Int32)))]) rfl rfl ?_
    refine go_iload C (pc' := 54) d8_52 rfl rfl ?_
    refine go_aloadN C (pc' := 55) d8_54 rfl rfl rfl ?_
    refine gF C (pc' := 58) (wd_64 hw) S.2.2.2.2.1 d8_55 rfl ?_
    refine go_icmpNo C (pc' := 61) d8_58 (by decide) rfl ?_
    refine go_aload C (pc' := 63) d8_61 rfl rfl rfl ?_
    refine go_iload C (pc' := 65) d8_63 rfl rfl ?_
    refine go_iload C (pc' := 67) d8_65 rfl rfl ?_
    refine go_iadd C (pc' := 68) d8_67 rfl ?_
    refine go_st (st' := [(.int (0 : Int32)), (.ref pg)]) (by rw [show ((0 : Int32) + (0 : Int32)) = (0 : Int32) from by decide]) ?_
    refine go_laget C (pc' := 69) Apg (by decide) (i := 0) (by decide) rfl d8_68 rfl ?_
    refine go_aloadN C (pc' := 70) d8_69 rfl rfl rfl ?_
    refine gF C (pc' := 73) (wd_73 hw) S.2.2.2.2.2.2.2.2.2.2.2.2.1 d8_70 rfl ?_
    refine go_iload C (pc' := 75) d8_73 rfl rfl ?_
    refine go_laget C (pc' := 76) S.2.2.2.2.2.2.2.2.2.2.2.2.2.2.2.2.2.2.2.2.2.1 (by decide) (i := 0) (by decide) rfl d8_75 rfl ?_
    refine go_lcmp C (pc' := 77) d8_76 rfl ?_
    by_cases hc2 : (lcmpW e0 p0) = 0
    · refine go_ifYes C (pc' := 82) d8_77 ((if0 _ _).trans (teq hc2).1) (by decide) (by decide) ?_
      refine gI C (pc' := 85) d8_82 rfl (z := (1 : Int32)) (by decide) (Ls' := #[(.val (.ref b)), (.val (.long en)), .second, (.val (.int hs)), (.val (.int (0 : Int32))), (.val (.ref pg)), (.val (.int (0 : Int32))), (.val (.int (1 : Int32)))]) rfl rfl ?_
      refine go_goto C (pc' := 52) d8_85 (by decide) (by decide) ?_
      refine go_iload C (pc' := 54) d8_52 rfl rfl ?_
      refine go_aloadN C (pc' := 55) d8_54 rfl rfl rfl ?_
      refine gF C (pc' := 58) (wd_64 hw) S.2.2.2.2.1 d8_55 rfl ?_
      refine go_icmpNo C (pc' := 61) d8_58 (by decide) rfl ?_
      refine go_aload C (pc' := 63) d8_61 rfl rfl rfl ?_
      refine go_iload C (pc' := 65) d8_63 rfl rfl ?_
      refine go_iload C (pc' := 67) d8_65 rfl rfl ?_
      refine go_iadd C (pc' := 68) d8_67 rfl ?_
      refine go_st (st' := [(.int (1 : Int32)), (.ref pg)]) (by rw [show ((0 : Int32) + (1 : Int32)) = (1 : Int32) from by decide]) ?_
      refine go_laget C (pc' := 69) Apg (by decide) (i := 1) (by decide) rfl d8_68 rfl ?_
      refine go_aloadN C (pc' := 70) d8_69 rfl rfl rfl ?_
      refine gF C (pc' := 73) (wd_73 hw) S.2.2.2.2.2.2.2.2.2.2.2.2.1 d8_70 rfl ?_
      refine go_iload C (pc' := 75) d8_73 rfl rfl ?_
      refine go_laget C (pc' := 76) S.2.2.2.2.2.2.2.2.2.2.2.2.2.2.2.2.2.2.2.2.2.1 (by decide) (i := 1) (by decide) rfl d8_75 rfl ?_
      refine go_lcmp C (pc' := 77) d8_76 rfl ?_
      by_cases hc3 : (lcmpW e1 p1) = 0
      · refine go_ifYes C (pc' := 82) d8_77 ((if0 _ _).trans (teq hc3).1) (by decide) (by decide) ?_
        refine gI C (pc' := 85) d8_82 rfl (z := (2 : Int32)) (by decide) (Ls' := #[(.val (.ref b)), (.val (.long en)), .second, (.val (.int hs)), (.val (.int (0 : Int32))), (.val (.ref pg)), (.val (.int (0 : Int32))), (.val (.int (2 : Int32)))]) rfl rfl ?_
        refine go_goto C (pc' := 52) d8_85 (by decide) (by decide) ?_
        refine go_iload C (pc' := 54) d8_52 rfl rfl ?_
        refine go_aloadN C (pc' := 55) d8_54 rfl rfl rfl ?_
        refine gF C (pc' := 58) (wd_64 hw) S.2.2.2.2.1 d8_55 rfl ?_
        refine go_icmpYes C (pc' := 88) d8_58 (by decide) (by decide) (by decide) ?_
        refine go_iconst C (pc' := 89) d8_88 (z := (1 : Int32)) (by decide) rfl ?_
        exact go_retN C (by simp) (z' := (1 : Int32)) (by decide) d8_89 (by decide) (by decide) ⟨_, rfl, rfl, Or.inl ⟨rfl, hc1, (lw_eq _ _).mp hc2, (lw_eq _ _).mp hc3⟩⟩
      · refine go_ifNo C (pc' := 80) d8_77 ((if0 _ _).trans (feq hc3).1) rfl ?_
        refine go_iconst C (pc' := 81) d8_80 (z := (0 : Int32)) (by decide) rfl ?_
        exact go_retN C (by simp) (z' := (0 : Int32)) (by decide) d8_81 (by decide) (by decide) ⟨_, rfl, rfl, Or.inr ⟨rfl, fun z => hc3 ((lw_eq _ _).mpr z.2.2)⟩⟩
    · refine go_ifNo C (pc' := 80) d8_77 ((if0 _ _).trans (feq hc2).1) rfl ?_
      refine go_iconst C (pc' := 81) d8_80 (z := (0 : Int32)) (by decide) rfl ?_
      exact go_retN C (by simp) (z' := (0 : Int32)) (by decide) d8_81 (by decide) (by decide) ⟨_, rfl, rfl, Or.inr ⟨rfl, fun z => hc2 ((lw_eq _ _).mpr z.2.1)⟩⟩
  · refine go_icmpNo C (pc' := 9) d8_6 (feq hc1).1 rfl ?_
    refine go_iconst C (pc' := 10) d8_9 (z := (0 : Int32)) (by decide) rfl ?_
    exact go_retN C (by simp) (z' := (0 : Int32)) (by decide) d8_10 (by decide) (by decide) ⟨_, rfl, rfl, Or.inr ⟨rfl, fun z => hc1 z.1⟩⟩
set_option maxRecDepth 65536 in
set_option maxHeartbeats 4000000 in
theorem holder2_met (l : Launch) (Z : State) (a0 : Array Value) (hw : ∀ d ∈ tables_1, d.before a0 Z = true) (n0 : Nat) (h : Heap) (O : Old Z n0 h)  {b pgs tb lo hi sh mk fi km pk : Nat} {kpgs ktb klo khi ksh kmk kfi kkm kpk : ClassId} {l0 u0 l1 u1 l2 u2 l3 u3 s1 s2 : Int32} {m0 m1 m2 m3 KM0 KM1 : Int64} {sz : Int32} {vp vt : List Value} {p0 p1 : Int64} (hs : Int32) (hlen : vt.length = 128) (S : Sto Z h b pgs tb lo hi sh mk fi km pk kpgs ktb klo khi ksh kmk kfi kkm kpk (2 : Int32) (19 : Int32) sz vp vt [(.int l0), (.int l1), (.int l2), (.int l3)] [(.int u0), (.int u1), (.int u2), (.int u3)] [(.int (0 : Int32)), (.int s1), (.int s2), (.int (0 : Int32))] [(.long m0), (.long m1), (.long m2), (.long m3)] [(.int (0 : Int32)), (.int (3 : Int32)), (.int (4 : Int32))] [(.long KM0), (.long KM1)] [(.long p0), (.long p1)]) :
    Met l Z n0 (⟨"com/example/invariant/invariant/check/ConfigurationStore", "holder", "(ILjava/util/function/IntPredicate;)I"⟩ : MethodName) prog_52_method_10_code 8 (some .int) [] ({ frames := 0, cells := 0, slots := 0, locals := 0 } : Room) #[(.ref b), (.int hs), .null] h (fun v h' => v = some (.int (-1 : Int32)) ∧ h = h') := by
  refine met_of (Ls := #[(.val (.ref b)), (.val (.int hs)), (.val .null), .unset, .unset, .unset, .unset, .unset]) (by decide +kernel) (fun m => by first | (simp [entryFrame, mkF, argsToLocals, Value.category]; done) | rfl) O ?_
  intro p e s m below meth cd C
  refine go_aloadN C (pc' := 1) d9_0 rfl rfl rfl ?_
  refine gF C (pc' := 4) (wd_25 hw) S.2.2.2.2.2.2.2.2.2.2.2.1 d9_1 rfl ?_
  refine go_alen C (pc' := 5) S.2.2.2.2.2.2.2.2.2.2.2.2.2.2.1 (z := (128 : Int32)) (by rw [hlen]; rfl) d9_4 rfl ?_
  refine go_iconst C (pc' := 6) d9_5 (z := (1 : Int32)) (by decide) rfl ?_
  refine go_isub C (pc' := 7) d9_6 rfl ?_
  refine go_st (st' := [(.int (127 : Int32))]) (by rw [show ((128 : Int32) - (1 : Int32)) = (127 : Int32) from by decide]) ?_
  refine go_istoreN C (pc' := 8) d9_7 (Ls' := #[(.val (.ref b)), (.val (.int hs)), (.val .null), (.val (.int (127 : Int32))), .unset, .unset, .unset, .unset]) rfl rfl ?_
  refine go_iloadN C (pc' := 9) d9_8 rfl rfl ?_
  refine go_iloadN C (pc' := 10) d9_9 rfl rfl ?_
  refine go_iand C (pc' := 11) d9_10 rfl ?_
  refine go_istore C (pc' := 13) d9_11 (Ls' := #[(.val (.ref b)), (.val (.int hs)), (.val .null), (.val (.int (127 : Int32))), (.val (.int (hs &&& (127 : Int32)))), .unset, .unset, .unset]) rfl rfl ?_
  refine go_aloadN C (pc' := 14) d9_13 rfl rfl rfl ?_
  refine go_ifnullYes C (pc' := 89) d9_14 (by decide) (by decide) ?_
  refine go_iconst C (pc' := 90) d9_89 (z := (-1 : Int32)) (by decide) rfl ?_
  exact go_retI C d9_90 (by decide) (by decide) ⟨rfl, rfl⟩
set_option maxRecDepth 65536 in
set_option maxHeartbeats 4000000 in
theorem slotA2_met (l : Launch) (Z : State) (a0 : Array Value) (hw : ∀ d ∈ tables_1, d.before a0 Z = true) (n0 : Nat) (h : Heap) (O : Old Z n0 h)  {b pgs tb lo hi sh mk fi km pk : Nat} {kpgs ktb klo khi ksh kmk kfi kkm kpk : ClassId} {l0 u0 l1 u1 l2 u2 l3 u3 s1 s2 : Int32} {m0 m1 m2 m3 KM0 KM1 : Int64} {sz : Int32} {vp vt : List Value} {p0 p1 : Int64} (hs : Int32) (hlen : vt.length = 128) (S : Sto Z h b pgs tb lo hi sh mk fi km pk kpgs ktb klo khi ksh kmk kfi kkm kpk (2 : Int32) (19 : Int32) sz vp vt [(.int l0), (.int l1), (.int l2), (.int l3)] [(.int u0), (.int u1), (.int u2), (.int u3)] [(.int (0 : Int32)), (.int s1), (.int s2), (.int (0 : Int32))] [(.long m0), (.long m1), (.long m2), (.long m3)] [(.int (0 : Int32)), (.int (3 : Int32)), (.int (4 : Int32))] [(.long KM0), (.long KM1)] [(.long p0), (.long p1)]) (hv : vt[(hs &&& (127 : Int32)).toNatClampNeg]? = some (.long 0)) :
    Met l Z n0 (⟨"com/example/invariant/invariant/check/ConfigurationStore", "slot", "(I)I"⟩ : MethodName) prog_52_method_15_code 4 (some .int) [] ({ frames := 0, cells := 0, slots := 0, locals := 0 } : Room) #[(.ref b), (.int hs)] h (fun v h' => v = some (.int (hs &&& (127 : Int32))) ∧ h = h') := by
  refine met_of (Ls := #[(.val (.ref b)), (.val (.int hs)), .unset, .unset]) (by decide +kernel) (fun m => by first | (simp [entryFrame, mkF, argsToLocals, Value.category]; done) | rfl) O ?_
  intro p e s m below meth cd C
  refine go_aloadN C (pc' := 1) d10_0 rfl rfl rfl ?_
  refine gF C (pc' := 4) (wd_25 hw) S.2.2.2.2.2.2.2.2.2.2.2.1 d10_1 rfl ?_
  refine go_alen C (pc' := 5) S.2.2.2.2.2.2.2.2.2.2.2.2.2.2.1 (z := (128 : Int32)) (by rw [hlen]; rfl) d10_4 rfl ?_
  refine go_iconst C (pc' := 6) d10_5 (z := (1 : Int32)) (by decide) rfl ?_
  refine go_isub C (pc' := 7) d10_6 rfl ?_
  refine go_st (st' := [(.int (127 : Int32))]) (by rw [show ((128 : Int32) - (1 : Int32)) = (127 : Int32) from by decide]) ?_
  refine go_istoreN C (pc' := 8) d10_7 (Ls' := #[(.val (.ref b)), (.val (.int hs)), (.val (.int (127 : Int32))), .unset]) rfl rfl ?_
  refine go_iloadN C (pc' := 9) d10_8 rfl rfl ?_
  refine go_iloadN C (pc' := 10) d10_9 rfl rfl ?_
  refine go_iand C (pc' := 11) d10_10 rfl ?_
  refine go_istoreN C (pc' := 12) d10_11 (Ls' := #[(.val (.ref b)), (.val (.int hs)), (.val (.int (127 : Int32))), (.val (.int (hs &&& (127 : Int32))))]) rfl rfl ?_
  refine go_aloadN C (pc' := 13) d10_12 rfl rfl rfl ?_
  refine gF C (pc' := 16) (wd_25 hw) S.2.2.2.2.2.2.2.2.2.2.2.1 d10_13 rfl ?_
  refine go_iloadN C (pc' := 17) d10_16 rfl rfl ?_
  refine go_laget C (pc' := 18) S.2.2.2.2.2.2.2.2.2.2.2.2.2.2.1 (and127 _).1 (i := _) rfl hv d10_17 rfl ?_
  refine go_lconst C (pc' := 19) d10_18 (z := (0 : Int64)) (by decide) rfl ?_
  refine go_lcmp C (pc' := 20) d10_19 rfl ?_
  refine go_st (st' := [(.int (0 : Int32))]) (by rw [show (lcmpW (0 : Int64) (0 : Int64)) = (0 : Int32) from by decide]) ?_
  refine go_ifYes C (pc' := 46) d10_20 (by decide) (by decide) (by decide) ?_
  refine go_iloadN C (pc' := 47) d10_46 rfl rfl ?_
  exact go_retI C d10_47 (by decide) (by decide) ⟨rfl, rfl⟩
set_option maxRecDepth 65536 in
set_option maxHeartbeats 4000000 in
theorem slotB2_met (l : Launch) (Z : State) (a0 : Array Value) (hw : ∀ d ∈ tables_1, d.before a0 Z = true) (n0 : Nat) (h : Heap) (O : Old Z n0 h)  {b pgs tb lo hi sh mk fi km pk : Nat} {kpgs ktb klo khi ksh kmk kfi kkm kpk : ClassId} {l0 u0 l1 u1 l2 u2 l3 u3 s1 s2 : Int32} {m0 m1 m2 m3 KM0 KM1 : Int64} {pg : Nat} {kpg : ClassId} {sz : Int32} {vt vr : List Value} {p0 e0 p1 e1 en : Int64} (hs : Int32) (hlen : vt.length = 128) (S : Sto Z h b pgs tb lo hi sh mk fi km pk kpgs ktb klo khi ksh kmk kfi kkm kpk (2 : Int32) (19 : Int32) sz [(.ref pg)] vt [(.int l0), (.int l1), (.int l2), (.int l3)] [(.int u0), (.int u1), (.int u2), (.int u3)] [(.int (0 : Int32)), (.int s1), (.int s2), (.int (0 : Int32))] [(.long m0), (.long m1), (.long m2), (.long m3)] [(.int (0 : Int32)), (.int (3 : Int32)), (.int (4 : Int32))] [(.long KM0), (.long KM1)] [(.long p0), (.long p1)]) (Apg : Ar Z h pg .long kpg (.long e0 :: .long e1 :: vr)) (hn : (en.toInt32 - (1 : Int32)) = 0) (h0 : ¬ en = 0) (hv : vt[(hs &&& (127 : Int32)).toNatClampNeg]? = some (.long en)) (hv2 : vt[(((hs &&& (127 : Int32)) + (1 : Int32)) &&& (127 : Int32)).toNatClampNeg]? = some (.long 0)) :
    Met l Z n0 (⟨"com/example/invariant/invariant/check/ConfigurationStore", "slot", "(I)I"⟩ : MethodName) prog_52_method_15_code 4 (some .int) [] ({ frames := 1, cells := 0, slots := 0, locals := 19 } : Room) #[(.ref b), (.int hs)] h (fun v h' => ∃ r : Int32, v = some (.int r) ∧ (r = (hs &&& (127 : Int32)) ∧ (hi32 en = hs ∧ e0 = p0 ∧ e1 = p1) ∨ r = (((hs &&& (127 : Int32)) + (1 : Int32)) &&& (127 : Int32)) ∧ ¬ (hi32 en = hs ∧ e0 = p0 ∧ e1 = p1)) ∧ h = h') := by
  refine met_of (Ls := #[(.val (.ref b)), (.val (.int hs)), .unset, .unset]) (by decide +kernel) (fun m => by first | (simp [entryFrame, mkF, argsToLocals, Value.category]; done) | rfl) O ?_
  intro p e s m below meth cd C
  refine go_aloadN C (pc' := 1) d10_0 rfl rfl rfl ?_
  refine gF C (pc' := 4) (wd_25 hw) S.2.2.2.2.2.2.2.2.2.2.2.1 d10_1 rfl ?_
  refine go_alen C (pc' := 5) S.2.2.2.2.2.2.2.2.2.2.2.2.2.2.1 (z := (128 : Int32)) (by rw [hlen]; rfl) d10_4 rfl ?_
  refine go_iconst C (pc' := 6) d10_5 (z := (1 : Int32)) (by decide) rfl ?_
  refine go_isub C (pc' := 7) d10_6 rfl ?_
  refine go_st (st' := [(.int (127 : Int32))]) (by rw [show ((128 : Int32) - (1 : Int32)) = (127 : Int32) from by decide]) ?_
  refine go_istoreN C (pc' := 8) d10_7 (Ls' := #[(.val (.ref b)), (.val (.int hs)), (.val (.int (127 : Int32))), .unset]) rfl rfl ?_
  refine go_iloadN C (pc' := 9) d10_8 rfl rfl ?_
  refine go_iloadN C (pc' := 10) d10_9 rfl rfl ?_
  refine go_iand C (pc' := 11) d10_10 rfl ?_
  refine go_istoreN C (pc' := 12) d10_11 (Ls' := #[(.val (.ref b)), (.val (.int hs)), (.val (.int (127 : Int32))), (.val (.int (hs &&& (127 : Int32))))]) rfl rfl ?_
  refine go_aloadN C (pc' := 13) d10_12 rfl rfl rfl ?_
  refine gF C (pc' := 16) (wd_25 hw) S.2.2.2.2.2.2.2.2.2.2.2.1 d10_13 rfl ?_
  refine go_iloadN C (pc' := 17) d10_16 rfl rfl ?_
  refine go_laget C (pc' := 18) S.2.2.2.2.2.2.2.2.2.2.2.2.2.2.1 (and127 _).1 (i := _) rfl hv d10_17 rfl ?_
  refine go_lconst C (pc' := 19) d10_18 (z := (0 : Int64)) (by decide) rfl ?_
  refine go_lcmp C (pc' := 20) d10_19 rfl ?_
  refine go_ifNo C (pc' := 23) d10_20 ((if0 _ _).trans (feq (fun z => h0 ((lw_eq _ _).mp z))).1) rfl ?_
  refine go_aloadN C (pc' := 24) d10_23 rfl rfl rfl ?_
  refine go_aloadN C (pc' := 25) d10_24 rfl rfl rfl ?_
  refine gF C (pc' := 28) (wd_25 hw) S.2.2.2.2.2.2.2.2.2.2.2.1 d10_25 rfl ?_
  refine go_iloadN C (pc' := 29) d10_28 rfl rfl ?_
  refine go_laget C (pc' := 30) S.2.2.2.2.2.2.2.2.2.2.2.2.2.2.1 (and127 _).1 (i := _) rfl hv d10_29 rfl ?_
  refine go_iloadN C (pc' := 31) d10_30 rfl rfl ?_
  refine go_callP C (pc' := 34) (y' := (⟨"com/example/invariant/invariant/check/ConfigurationStore", "holdsPacked", "(JI)Z"⟩ : MethodName)) (wd_115 hw) (wd_116 hw) (wd_117 hw) (wd_12 hw) (holds2_met l Z a0 hw _ _ O hs S Apg hn) (wd_118 hw) (wd_13 hw) (by decide) (by decide) (W := 0) (Nat.le_of_ble_eq_true rfl) (by decide) (by decide) (by decide) rfl S.1 (argsL := [(.long en), (.int hs)]) (rest := []) pd_4 rfl rfl rfl d10_31 rfl ?_
  rintro _ _ ⟨r, rfl, rfl, hr⟩
  refine go_st (st' := [(.int r)]) rfl ?_
  rcases hr with ⟨rfl, hr⟩ | ⟨rfl, hr⟩
  · refine go_ifYes C (pc' := 46) d10_34 (by decide) (by decide) (by decide) ?_
    refine go_iloadN C (pc' := 47) d10_46 rfl rfl ?_
    exact go_retI C d10_47 (by decide) (by decide) ⟨_, rfl, Or.inl ⟨rfl, hr⟩, rfl⟩
  · refine go_ifNo C (pc' := 37) d10_34 (by decide) rfl ?_
    refine go_iloadN C (pc' := 38) d10_37 rfl rfl ?_
    refine go_iconst C (pc' := 39) d10_38 (z := (1 : Int32)) (by decide) rfl ?_
    refine go_iadd C (pc' := 40) d10_39 rfl ?_
    refine go_iloadN C (pc' := 41) d10_40 rfl rfl ?_
    refine go_iand C (pc' := 42) d10_41 rfl ?_
    refine go_istoreN C (pc' := 43) d10_42 (Ls' := #[(.val (.ref b)), (.val (.int hs)), (.val (.int (127 : Int32))), (.val (.int (((hs &&& (127 : Int32)) + (1 : Int32)) &&& (127 : Int32))))]) rfl rfl ?_
    refine go_goto C (pc' := 12) d10_43 (by decide) (by decide) ?_
    refine go_aloadN C (pc' := 13) d10_12 rfl rfl rfl ?_
    refine gF C (pc' := 16) (wd_25 hw) S.2.2.2.2.2.2.2.2.2.2.2.1 d10_13 rfl ?_
    refine go_iloadN C (pc' := 17) d10_16 rfl rfl ?_
    refine go_laget C (pc' := 18) S.2.2.2.2.2.2.2.2.2.2.2.2.2.2.1 (and127 _).1 (i := _) rfl hv2 d10_17 rfl ?_
    refine go_lconst C (pc' := 19) d10_18 (z := (0 : Int64)) (by decide) rfl ?_
    refine go_lcmp C (pc' := 20) d10_19 rfl ?_
    refine go_st (st' := [(.int (0 : Int32))]) (by rw [show (lcmpW (0 : Int64) (0 : Int64)) = (0 : Int32) from by decide]) ?_
    refine go_ifYes C (pc' := 46) d10_20 (by decide) (by decide) (by decide) ?_
    refine go_iloadN C (pc' := 47) d10_46 rfl rfl ?_
    exact go_retI C d10_47 (by decide) (by decide) ⟨_, rfl, Or.inr ⟨rfl, hr⟩, rfl⟩
set_option maxRecDepth 65536 in
set_option maxHeartbeats 4000000 in
theorem makeRoom2_met (l : Launch) (Z : State) (a0 : Array Value) (hw : ∀ d ∈ tables_1, d.before a0 Z = true) (n0 : Nat) (h : Heap) (O : Old Z n0 h)  {b pgs tb lo hi sh mk fi km pk : Nat} {kpgs ktb klo khi ksh kmk kfi kkm kpk : ClassId} {l0 u0 l1 u1 l2 u2 l3 u3 s1 s2 : Int32} {m0 m1 m2 m3 KM0 KM1 : Int64} {sz : Int32} {vt : List Value} {p0 p1 : Int64} (S : Sto Z h b pgs tb lo hi sh mk fi km pk kpgs ktb klo khi ksh kmk kfi kkm kpk (2 : Int32) (19 : Int32) sz [.null] vt [(.int l0), (.int l1), (.int l2), (.int l3)] [(.int u0), (.int u1), (.int u2), (.int u3)] [(.int (0 : Int32)), (.int s1), (.int s2), (.int (0 : Int32))] [(.long m0), (.long m1), (.long m2), (.long m3)] [(.int (0 : Int32)), (.int (3 : Int32)), (.int (4 : Int32))] [(.long KM0), (.long KM1)] [(.long p0), (.long p1)]) (o : Ord n0 b pgs tb lo hi sh mk fi km pk) :
    Met l Z n0 (⟨"com/example/invariant/invariant/check/ConfigurationStore", "makeRoom", "(II)V"⟩ : MethodName) prog_52_method_13_code 7 none [] ({ frames := 1, cells := 1, slots := 128, locals := 14 } : Room) #[(.ref b), (.int (0 : Int32)), (.int (0 : Int32))] h (fun v h' => v = none ∧ ∃ (pg : Nat) (kpg : ClassId), pk < pg ∧ h.size ≤ pg ∧ Sto Z h' b pgs tb lo hi sh mk fi km pk kpgs ktb klo khi ksh kmk kfi kkm kpk (2 : Int32) (19 : Int32) sz [(.ref pg)] vt [(.int l0), (.int l1), (.int l2), (.int l3)] [(.int u0), (.int u1), (.int u2), (.int u3)] [(.int (0 : Int32)), (.int s1), (.int s2), (.int (0 : Int32))] [(.long m0), (.long m1), (.long m2), (.long m3)] [(.int (0 : Int32)), (.int (3 : Int32)), (.int (4 : Int32))] [(.long KM0), (.long KM1)] [(.long p0), (.long p1)] ∧ Ar Z h' pg .long kpg (List.replicate 128 (.long (0 : Int64))) ∧ Keep h h' [pgs]) := by
  refine met_of (Ls := #[(.val (.ref b)), (.val (.int (0 : Int32))), (.val (.int (0 : Int32))), .unset, .unset, .unset, .unset]) (by decide +kernel) (fun m => by first | (simp [entryFrame, mkF, argsToLocals, Value.category]; done) | rfl) O ?_
  intro p e s m below meth cd C
  obtain ⟨o0, o1, o2, o3, o4, o5, o6, o7, o8, o9⟩ := o
  refine go_aloadN C (pc' := 1) d11_0 rfl rfl rfl ?_
  refine gF C (pc' := 4) (wd_64 hw) S.2.2.2.2.1 d11_1 rfl ?_
  refine go_aloadN C (pc' := 5) d11_4 rfl rfl rfl ?_
  refine gF C (pc' := 8) (wd_71 hw) S.2.2.2.2.2.2.2.2.1 d11_5 rfl ?_
  refine go_ishl C (pc' := 9) d11_8 rfl ?_
  refine go_st (st' := [(.int (1048576 : Int32))]) (by rw [show ((2 : Int32) <<< ((19 : Int32) &&& 31)) = (1048576 : Int32) from by decide]) ?_
  refine go_istoreN C (pc' := 10) d11_9 (Ls' := #[(.val (.ref b)), (.val (.int (0 : Int32))), (.val (.int (0 : Int32))), (.val (.int (1048576 : Int32))), .unset, .unset, .unset]) rfl rfl ?_
  refine go_iloadN C (pc' := 11) d11_10 rfl rfl ?_
  refine go_ifNo C (pc' := 14) d11_11 (by decide) rfl ?_
  refine go_iloadN C (pc' := 15) d11_14 rfl rfl ?_
  refine go_bipush C (pc' := 17) d11_15 (z := (64 : Int32)) (by decide) rfl ?_
  refine go_aloadN C (pc' := 18) d11_17 rfl rfl rfl ?_
  refine gF C (pc' := 21) (wd_64 hw) S.2.2.2.2.1 d11_18 rfl ?_
  refine go_imul C (pc' := 22) d11_21 rfl ?_
  refine go_st (st' := [(.int (128 : Int32)), (.int (1048576 : Int32))]) (by rw [show ((64 : Int32) * (2 : Int32)) = (128 : Int32) from by decide]) ?_
  refine go_iconst C (pc' := 23) d11_22 (z := (2 : Int32)) (by decide) rfl ?_
  refine go_iloadN C (pc' := 24) d11_23 rfl rfl ?_
  refine go_imul C (pc' := 25) d11_24 rfl ?_
  refine go_st (st' := [(.int (0 : Int32)), (.int (128 : Int32)), (.int (1048576 : Int32))]) (by rw [show ((2 : Int32) * (0 : Int32)) = (0 : Int32) from by decide]) ?_
  refine go_callS C (pc' := 28) (y' := (⟨"java/lang/Math", "max", "(II)I"⟩ : MethodName)) (wd_69 hw) (wd_5 hw) (max_met l Z a0 hw _ _ O (128 : Int32) (0 : Int32) (128 : Int32) (by decide)) (wd_6 hw) (wd_2 hw) (by decide) (by decide) (W := 1) (Nat.le_of_ble_eq_true rfl) (by decide) (by decide) (by decide) rfl (argsL := [(.int (128 : Int32)), (.int (0 : Int32))]) (rest := [(.int (1048576 : Int32))]) pd_1 rfl rfl rfl d11_25 rfl ?_
  rintro _ _ ⟨rfl, rfl⟩
  refine go_st (st' := [(.int (128 : Int32)), (.int (1048576 : Int32))]) rfl ?_
  refine go_callS C (pc' := 31) (y' := (⟨"java/lang/Math", "min", "(II)I"⟩ : MethodName)) (wd_111 hw) (wd_1 hw) (min_met l Z a0 hw _ _ O (1048576 : Int32) (128 : Int32) (128 : Int32) (by decide)) (wd_3 hw) (wd_2 hw) (by decide) (by decide) (W := 0) (Nat.le_of_ble_eq_true rfl) (by decide) (by decide) (by decide) rfl (argsL := [(.int (1048576 : Int32)), (.int (128 : Int32))]) (rest := []) pd_1 rfl rfl rfl d11_28 rfl ?_
  rintro _ _ ⟨rfl, rfl⟩
  refine go_st (st' := [(.int (128 : Int32))]) rfl ?_
  refine go_goto C (pc' := 35) d11_31 (by decide) (by decide) ?_
  refine go_istore C (pc' := 37) d11_35 (Ls' := #[(.val (.ref b)), (.val (.int (0 : Int32))), (.val (.int (0 : Int32))), (.val (.int (1048576 : Int32))), (.val (.int (128 : Int32))), .unset, .unset]) rfl rfl ?_
  refine go_iloadN C (pc' := 38) d11_37 rfl rfl ?_
  refine go_aloadN C (pc' := 39) d11_38 rfl rfl rfl ?_
  refine gF C (pc' := 42) (wd_22 hw) S.2.2.2.2.2.2.2.2.2.1 d11_39 rfl ?_
  refine go_alen C (pc' := 43) S.2.2.2.2.2.2.2.2.2.2.2.2.2.1 (z := (1 : Int32)) rfl d11_42 rfl ?_
  refine go_icmpNo C (pc' := 46) d11_43 (by decide) rfl ?_
  refine go_aloadN C (pc' := 47) d11_46 rfl rfl rfl ?_
  refine gF C (pc' := 50) (wd_22 hw) S.2.2.2.2.2.2.2.2.2.1 d11_47 rfl ?_
  refine go_iloadN C (pc' := 51) d11_50 rfl rfl ?_
  refine go_raget C (pc' := 52) S.2.2.2.2.2.2.2.2.2.2.2.2.2.1 rfl (by decide) (i := 0) (by decide) rfl d11_51 rfl ?_
  refine go_ifnullYes C (pc' := 59) d11_52 (by decide) (by decide) ?_
  refine go_iconst C (pc' := 60) d11_59 (z := (0 : Int32)) (by decide) rfl ?_
  refine go_istore C (pc' := 62) d11_60 (Ls' := #[(.val (.ref b)), (.val (.int (0 : Int32))), (.val (.int (0 : Int32))), (.val (.int (1048576 : Int32))), (.val (.int (128 : Int32))), (.val (.int (0 : Int32))), .unset]) rfl rfl ?_
  refine go_iload C (pc' := 64) d11_62 rfl rfl ?_
  refine go_ifYes C (pc' := 81) d11_64 (by decide) (by decide) (by decide) ?_
  refine go_iload C (pc' := 83) d11_81 rfl rfl ?_
  refine go_newPE C (pc' := 85) (len := 128) (ty := .long) (ad := "[J") rfl rfl (wd_24 hw) d11_83 rfl (by decide) (by decide) (by decide) (by decide) (by decide) ?_
  intro h1 b1 k1 g1 n1 E1 A1 X1
  have sz_b1 := Nat.le_trans (Nat.le_refl _) (Nat.le_of_eq g1.symm)
  have lt_b1 : @LT.lt Nat _ pk b1 := by rw [g1]; exact S.2.2.2.2.2.2.2.2.2.2.2.2.2.2.2.2.2.2.2.2.2.1.lt
  refine go_old fun O1 => ?_
  refine go_astore C (pc' := 87) d11_85 rfl (Ls' := #[(.val (.ref b)), (.val (.int (0 : Int32))), (.val (.int (0 : Int32))), (.val (.int (1048576 : Int32))), (.val (.int (128 : Int32))), (.val (.int (0 : Int32))), (.val (.ref b1))]) rfl rfl ?_
  refine go_iloadN C (pc' := 88) d11_87 rfl rfl ?_
  refine go_aloadN C (pc' := 89) d11_88 rfl rfl rfl ?_
  refine gF C (pc' := 92) (wd_22 hw) (S.2.2.2.2.2.2.2.2.2.1.ext E1) d11_89 rfl ?_
  refine go_alen C (pc' := 93) (S.2.2.2.2.2.2.2.2.2.2.2.2.2.1.ext E1) (z := (1 : Int32)) rfl d11_92 rfl ?_
  refine go_icmpYes C (pc' := 113) d11_93 (by decide) (by decide) (by decide) ?_
  refine go_aloadN C (pc' := 114) d11_113 rfl rfl rfl ?_
  refine gF C (pc' := 117) (wd_22 hw) (S.2.2.2.2.2.2.2.2.2.1.ext E1) d11_114 rfl ?_
  refine go_iloadN C (pc' := 118) d11_117 rfl rfl ?_
  refine go_aload C (pc' := 120) d11_118 rfl rfl rfl ?_
  refine go_aaset C (pc' := 121) (S.2.2.2.2.2.2.2.2.2.2.2.2.2.1.ext E1) S.2.2.2.2.2.2.2.2.2.2.2.2.2.2.2.2.2.2.2.2.2.2 (Ins.self X1) (by decide) (i := 0) (by decide) (by simp) (vs' := [(.ref b1)]) rfl d11_120 rfl (by omega) ?_
  intro h2 W2 A2
  refine go_old fun O2 => ?_
  have fx3 := ((S.2.2.2.2.2.2.2.2.2.2.2.1.ext E1).other W2 (Or.inl (ne_i (by omega))))
  have fx4 := ((S.2.2.2.2.2.2.2.2.2.2.2.2.1.ext E1).other W2 (Or.inl (ne_i (by omega))))
  have fx5 := ((S.2.2.2.2.2.2.2.2.2.2.2.2.2.2.2.1.ext E1).other W2 (ne_i (by omega)))
  have fx6 := ((S.2.2.2.2.2.2.2.2.2.2.2.2.2.2.2.2.1.ext E1).other W2 (ne_i (by omega)))
  have fx7 := ((S.2.2.2.2.2.2.2.2.2.2.2.2.2.2.2.2.2.1.ext E1).other W2 (ne_i (by omega)))
  have fx8 := ((S.2.2.2.2.2.2.2.2.2.2.2.2.2.2.2.2.2.2.1.ext E1).other W2 (ne_i (by omega)))
  have fx9 := ((S.2.2.2.2.2.2.2.2.2.2.2.2.2.2.2.2.2.2.2.1.ext E1).other W2 (ne_i (by omega)))
  have fx10 := ((S.2.2.2.2.2.2.2.2.2.2.2.2.2.2.2.2.2.2.2.2.1.ext E1).other W2 (ne_i (by omega)))
  have fx11 := ((S.2.2.2.2.2.2.2.2.2.2.2.2.2.2.2.2.2.2.2.2.2.1.ext E1).other W2 (ne_i (by omega)))
  exact go_ret0 C d11_121 (by decide) (by decide) ⟨rfl, b1, _, by omega, sz_b1, ⟨((S.1.ext E1).wr W2), ((S.2.1.ext E1).other W2 (Or.inl (ne_i (by omega)))), ((S.2.2.1.ext E1).other W2 (Or.inl (ne_i (by omega)))), ((S.2.2.2.1.ext E1).other W2 (Or.inl (ne_i (by omega)))), ((S.2.2.2.2.1.ext E1).other W2 (Or.inl (ne_i (by omega)))), ((S.2.2.2.2.2.1.ext E1).other W2 (Or.inl (ne_i (by omega)))), ((S.2.2.2.2.2.2.1.ext E1).other W2 (Or.inl (ne_i (by omega)))), ((S.2.2.2.2.2.2.2.1.ext E1).other W2 (Or.inl (ne_i (by omega)))), ((S.2.2.2.2.2.2.2.2.1.ext E1).other W2 (Or.inl (ne_i (by omega)))), ((S.2.2.2.2.2.2.2.2.2.1.ext E1).other W2 (Or.inl (ne_i (by omega)))), ((S.2.2.2.2.2.2.2.2.2.2.1.ext E1).other W2 (Or.inl (ne_i (by omega)))), fx3, fx4, A2, ((S.2.2.2.2.2.2.2.2.2.2.2.2.2.2.1.ext E1).other W2 (ne_i (by omega))), fx5, fx6, fx7, fx8, fx9, fx10, fx11, S.2.2.2.2.2.2.2.2.2.2.2.2.2.2.2.2.2.2.2.2.2.2⟩, (A1.other W2 (ne_i (by omega))), (((Keep.refl _ [pgs]).ext E1).wr W2 (Or.inl (by simp)))⟩
set_option maxRecDepth 65536 in
set_option maxHeartbeats 4000000 in
theorem shut2_met (l : Launch) (Z : State) (a0 : Array Value) (hw : ∀ d ∈ tables_1, d.before a0 Z = true) (n0 : Nat) (h : Heap) (O : Old Z n0 h)  {b pgs tb lo hi sh mk fi km pk : Nat} {kpgs ktb klo khi ksh kmk kfi kkm kpk : ClassId} {l0 u0 l1 u1 l2 u2 l3 u3 s1 s2 : Int32} {m0 m1 m2 m3 KM0 KM1 : Int64} {pg : Nat} {sz : Int32} {vt : List Value} {p0 p1 : Int64} (S : Sto Z h b pgs tb lo hi sh mk fi km pk kpgs ktb klo khi ksh kmk kfi kkm kpk (2 : Int32) (19 : Int32) sz [(.ref pg)] vt [(.int l0), (.int l1), (.int l2), (.int l3)] [(.int u0), (.int u1), (.int u2), (.int u3)] [(.int (0 : Int32)), (.int s1), (.int s2), (.int (0 : Int32))] [(.long m0), (.long m1), (.long m2), (.long m3)] [(.int (0 : Int32)), (.int (3 : Int32)), (.int (4 : Int32))] [(.long KM0), (.long KM1)] [(.long p0), (.long p1)]) (o : Ord n0 b pgs tb lo hi sh mk fi km pk) :
    Met l Z n0 site_346 prog_52_method_11_code 1 none [] ({ frames := 0, cells := 0, slots := 0, locals := 0 } : Room) #[(.ref b)] h (fun v h' => v = none ∧ Stz Z h' b pgs lo hi sh mk fi km pk kpgs klo khi ksh kmk kfi kkm kpk (2 : Int32) (19 : Int32) sz [(.ref pg)] [(.int l0), (.int l1), (.int l2), (.int l3)] [(.int u0), (.int u1), (.int u2), (.int u3)] [(.int (0 : Int32)), (.int s1), (.int s2), (.int (0 : Int32))] [(.long m0), (.long m1), (.long m2), (.long m3)] [(.int (0 : Int32)), (.int (3 : Int32)), (.int (4 : Int32))] [(.long KM0), (.long KM1)] [(.long p0), (.long p1)] ∧ Keep h h' [b]) := by
  refine met_of (Ls := #[(.val (.ref b))]) (by decide +kernel) (fun m => by first | (simp [entryFrame, mkF, argsToLocals, Value.category]; done) | rfl) O ?_
  intro p e s m below meth cd C
  obtain ⟨o0, o1, o2, o3, o4, o5, o6, o7, o8, o9⟩ := o
  refine go_aloadN C (pc' := 1) d12_0 rfl rfl rfl ?_
  refine go_aconstNull C (pc' := 2) d12_1 rfl ?_
  refine go_putF C (pc' := 5) (host := "") (Or.inl (wd_25 hw)) Via.refl S.2.2.2.2.2.2.2.2.2.2.2.1 S.1 (Or.inl (wd_26 hw)) (wd_12 hw) (ty := (.array .long)) (by decide) rfl rfl d12_2 rfl (by omega) ?_
  intro h1 W1 F1
  refine go_old fun O1 => ?_
  have fx2 := (S.2.2.2.2.2.2.2.2.2.2.2.2.2.2.2.2.2.2.2.2.1.other W1 (ne_i (by omega)))
  have fx3 := (S.2.2.2.2.2.2.2.2.2.2.2.2.2.2.2.2.2.2.2.2.2.1.other W1 (ne_i (by omega)))
  exact go_ret0 C d12_5 (by decide) (by decide) ⟨rfl, ⟨(S.1.wr W1), (S.2.1.other W1 (Or.inr (sn_2 hw))), (S.2.2.1.other W1 (Or.inr (sn_4 hw))), (S.2.2.2.1.other W1 (Or.inr (sn_16 hw))), (S.2.2.2.2.1.other W1 (Or.inr (sn_22 hw))), (S.2.2.2.2.2.1.other W1 (Or.inr (sn_7 hw))), (S.2.2.2.2.2.2.1.other W1 (Or.inr (sn_11 hw))), (S.2.2.2.2.2.2.2.1.other W1 (Or.inr (sn_29 hw))), (S.2.2.2.2.2.2.2.2.1.other W1 (Or.inr (sn_37 hw))), (S.2.2.2.2.2.2.2.2.2.1.other W1 (Or.inr (sn_0 hw).symm)), (S.2.2.2.2.2.2.2.2.2.2.1.other W1 (Or.inr (sn_46 hw))), (S.2.2.2.2.2.2.2.2.2.2.2.2.1.other W1 (Or.inr (sn_55 hw))), (S.2.2.2.2.2.2.2.2.2.2.2.2.2.1.other W1 (ne_i (by omega))), (S.2.2.2.2.2.2.2.2.2.2.2.2.2.2.2.1.other W1 (ne_i (by omega))), (S.2.2.2.2.2.2.2.2.2.2.2.2.2.2.2.2.1.other W1 (ne_i (by omega))), (S.2.2.2.2.2.2.2.2.2.2.2.2.2.2.2.2.2.1.other W1 (ne_i (by omega))), (S.2.2.2.2.2.2.2.2.2.2.2.2.2.2.2.2.2.2.1.other W1 (ne_i (by omega))), (S.2.2.2.2.2.2.2.2.2.2.2.2.2.2.2.2.2.2.2.1.other W1 (ne_i (by omega))), fx2, fx3⟩, ((Keep.refl _ [b]).wr W1 (Or.inl (by simp)))⟩
set_option maxRecDepth 65536 in
set_option maxHeartbeats 4000000 in
theorem copy2_met (l : Launch) (Z : State) (a0 : Array Value) (hw : ∀ d ∈ tables_1, d.before a0 Z = true) (n0 : Nat) (h : Heap) (O : Old Z n0 h)  {b pgs tb lo hi sh mk fi km pk : Nat} {kpgs klo khi ksh kmk kfi kkm kpk : ClassId} {l0 u0 l1 u1 l2 u2 l3 u3 s1 s2 : Int32} {m0 m1 m2 m3 KM0 KM1 : Int64} {into pg i0 i1 : Nat} {ki kpg : ClassId} {sz j J f0 f1 f2 f3 f4 : Int32} {vg : List Value} {p0 e0 p1 e1 : Int64} (S : Stz Z h b pgs lo hi sh mk fi km pk kpgs klo khi ksh kmk kfi kkm kpk (2 : Int32) (19 : Int32) sz [(.ref pg)] [(.int l0), (.int l1), (.int l2), (.int l3)] [(.int u0), (.int u1), (.int u2), (.int u3)] [(.int (0 : Int32)), (.int s1), (.int s2), (.int (0 : Int32))] [(.long m0), (.long m1), (.long m2), (.long m3)] [(.int (0 : Int32)), (.int (3 : Int32)), (.int (4 : Int32))] [(.long KM0), (.long KM1)] [(.long p0), (.long p1)]) (o : Ord n0 b pgs tb lo hi sh mk fi km pk) (qi : into < b) (ni : n0 ≤ into) (Apg : Ar Z h pg .long kpg vg) (qpg : pk < pg) (hj1 : ((j).toUInt32 >>> ((19 : Int32) &&& 31).toUInt32).toInt32 = 0) (hj2 : ((j &&& (524287 : Int32)) * (2 : Int32)) = J) (hn0 : ¬ (J + (0 : Int32)) < 0) (hi0 : (J + (0 : Int32)).toNatClampNeg = i0) (hr0 : vg[i0]? = some (.long e0)) (hn1 : ¬ (J + (1 : Int32)) < 0) (hi1 : (J + (1 : Int32)).toNatClampNeg = i1) (hr1 : vg[i1]? = some (.long e1)) (Ai : Ar Z h into .int ki [(.int f0), (.int f1), (.int f2), (.int f3), (.int f4)]) :
    Met l Z n0 (⟨"com/example/invariant/invariant/check/ConfigurationStore", "copy", "(I[I)V"⟩ : MethodName) prog_52_method_12_code 9 none [] ({ frames := 0, cells := 0, slots := 0, locals := 0 } : Room) #[(.ref b), (.int j), (.ref into)] h (fun v h' => v = none ∧ Ar Z h' into .int ki [(.int (un e0 (0 : Int32) m0 l0)), (.int (un e0 s1 m1 l1)), (.int (un e0 s2 m2 l2)), (.int (un e1 (0 : Int32) m3 l3)), (.int f4)] ∧ Keep h h' [into]) := by
  refine met_of (Ls := #[(.val (.ref b)), (.val (.int j)), (.val (.ref into)), .unset, .unset, .unset, .unset, .unset, .unset]) (by decide +kernel) (fun m => by first | (simp [entryFrame, mkF, argsToLocals, Value.category]; done) | rfl) O ?_
  intro p e s m below meth cd C
  obtain ⟨o0, o1, o2, o3, o4, o5, o6, o7, o8, o9⟩ := o
  refine go_aloadN C (pc' := 1) d13_0 rfl rfl rfl ?_
  refine gF C (pc' := 4) (wd_22 hw) S.2.2.2.2.2.2.2.2.2.1 d13_1 rfl ?_
  refine go_iloadN C (pc' := 5) d13_4 rfl rfl ?_
  refine go_aloadN C (pc' := 6) d13_5 rfl rfl rfl ?_
  refine gF C (pc' := 9) (wd_71 hw) S.2.2.2.2.2.2.2.2.1 d13_6 rfl ?_
  refine go_iushr C (pc' := 10) d13_9 rfl ?_
  refine go_st (st' := [(.int (0 : Int32)), (.ref pgs)]) (by rw [hj1]) ?_
  refine go_raget C (pc' := 11) S.2.2.2.2.2.2.2.2.2.2.2.2.1 rfl (by decide) (i := 0) (by decide) rfl d13_10 rfl ?_
  refine go_astoreN C (pc' := 12) d13_11 rfl (Ls' := #[(.val (.ref b)), (.val (.int j)), (.val (.ref into)), (.val (.ref pg)), .unset, .unset, .unset, .unset, .unset]) rfl rfl ?_
  refine go_iloadN C (pc' := 13) d13_12 rfl rfl ?_
  refine go_iconst C (pc' := 14) d13_13 (z := (1 : Int32)) (by decide) rfl ?_
  refine go_aloadN C (pc' := 15) d13_14 rfl rfl rfl ?_
  refine gF C (pc' := 18) (wd_71 hw) S.2.2.2.2.2.2.2.2.1 d13_15 rfl ?_
  refine go_ishl C (pc' := 19) d13_18 rfl ?_
  refine go_st (st' := [(.int (524288 : Int32)), (.int j)]) (by rw [show ((1 : Int32) <<< ((19 : Int32) &&& 31)) = (524288 : Int32) from by decide]) ?_
  refine go_iconst C (pc' := 20) d13_19 (z := (1 : Int32)) (by decide) rfl ?_
  refine go_isub C (pc' := 21) d13_20 rfl ?_
  refine go_st (st' := [(.int (524287 : Int32)), (.int j)]) (by rw [show ((524288 : Int32) - (1 : Int32)) = (524287 : Int32) from by decide]) ?_
  refine go_iand C (pc' := 22) d13_21 rfl ?_
  refine go_aloadN C (pc' := 23) d13_22 rfl rfl rfl ?_
  refine gF C (pc' := 26) (wd_64 hw) S.2.2.2.2.1 d13_23 rfl ?_
  refine go_imul C (pc' := 27) d13_26 rfl ?_
  refine go_st (st' := [(.int J)]) (by rw [hj2]) ?_
  refine go_istore C (pc' := 29) d13_27 (Ls' := #[(.val (.ref b)), (.val (.int j)), (.val (.ref into)), (.val (.ref pg)), (.val (.int J)), .unset, .unset, .unset, .unset]) rfl rfl ?_
  refine go_iconst C (pc' := 30) d13_29 (z := (0 : Int32)) (by decide) rfl ?_
  refine go_istore C (pc' := 32) d13_30 (Ls' := #[(.val (.ref b)), (.val (.int j)), (.val (.ref into)), (.val (.ref pg)), (.val (.int J)), (.val (.int (0 : Int32))), .unset, .unset, .unset]) rfl rfl ?_
  refine go_iload C (pc' := 34) d13_32 rfl rfl ?_
  refine go_aloadN C (pc' := 35) d13_34 rfl rfl rfl ?_
  refine gF C (pc' := 38) (wd_64 hw) S.2.2.2.2.1 d13_35 rfl ?_
  refine go_icmpNo C (pc' := 41) d13_38 (by decide) rfl ?_
  refine go_aloadN C (pc' := 42) d13_41 rfl rfl rfl ?_
  refine go_iload C (pc' := 44) d13_42 rfl rfl ?_
  refine go_iload C (pc' := 46) d13_44 rfl rfl ?_
  refine go_iadd C (pc' := 47) d13_46 rfl ?_
  refine go_laget C (pc' := 48) Apg hn0 (i := i0) hi0 hr0 d13_47 rfl ?_
  refine go_lstore C (pc' := 50) d13_48 (Ls' := #[(.val (.ref b)), (.val (.int j)), (.val (.ref into)), (.val (.ref pg)), (.val (.int J)), (.val (.int (0 : Int32))), (.val (.long e0)), .second, .unset]) rfl rfl ?_
  refine go_aloadN C (pc' := 51) d13_50 rfl rfl rfl ?_
  refine gF C (pc' := 54) (wd_62 hw) S.2.2.2.1 d13_51 rfl ?_
  refine go_iload C (pc' := 56) d13_54 rfl rfl ?_
  refine go_iaget C (pc' := 57) S.2.2.2.2.2.2.2.2.2.2.2.2.2.2.2.2.2.1 (by decide) (i := 0) (by decide) rfl d13_56 rfl ?_
  refine go_istore C (pc' := 59) d13_57 (Ls' := #[(.val (.ref b)), (.val (.int j)), (.val (.ref into)), (.val (.ref pg)), (.val (.int J)), (.val (.int (0 : Int32))), (.val (.long e0)), .second, (.val (.int (0 : Int32)))]) rfl rfl ?_
  refine go_iload C (pc' := 61) d13_59 rfl rfl ?_
  refine go_aloadN C (pc' := 62) d13_61 rfl rfl rfl ?_
  refine gF C (pc' := 65) (wd_62 hw) S.2.2.2.1 d13_62 rfl ?_
  refine go_iload C (pc' := 67) d13_65 rfl rfl ?_
  refine go_iconst C (pc' := 68) d13_67 (z := (1 : Int32)) (by decide) rfl ?_
  refine go_iadd C (pc' := 69) d13_68 rfl ?_
  refine go_st (st' := [(.int (1 : Int32)), (.ref fi), (.int (0 : Int32))]) (by rw [show ((0 : Int32) + (1 : Int32)) = (1 : Int32) from by decide]) ?_
  refine go_iaget C (pc' := 70) S.2.2.2.2.2.2.2.2.2.2.2.2.2.2.2.2.2.1 (by decide) (i := 1) (by decide) rfl d13_69 rfl ?_
  refine go_icmpNo C (pc' := 73) d13_70 (by decide) rfl ?_
  refine go_aloadN C (pc' := 74) d13_73 rfl rfl rfl ?_
  refine go_iload C (pc' := 76) d13_74 rfl rfl ?_
  refine go_lload C (pc' := 78) d13_76 rfl rfl ?_
  refine go_aloadN C (pc' := 79) d13_78 rfl rfl rfl ?_
  refine gF C (pc' := 82) (wd_40 hw) S.2.2.2.2.2.1 d13_79 rfl ?_
  refine go_iload C (pc' := 84) d13_82 rfl rfl ?_
  refine go_iaget C (pc' := 85) S.2.2.2.2.2.2.2.2.2.2.2.2.2.2.2.1 (by decide) (i := 0) (by decide) rfl d13_84 rfl ?_
  refine go_lushr C (pc' := 86) d13_85 rfl ?_
  refine go_aloadN C (pc' := 87) d13_86 rfl rfl rfl ?_
  refine gF C (pc' := 90) (wd_42 hw) S.2.2.2.2.2.2.1 d13_87 rfl ?_
  refine go_iload C (pc' := 92) d13_90 rfl rfl ?_
  refine go_laget C (pc' := 93) S.2.2.2.2.2.2.2.2.2.2.2.2.2.2.2.2.1 (by decide) (i := 0) (by decide) rfl d13_92 rfl ?_
  refine go_land C (pc' := 94) d13_93 rfl ?_
  refine go_aloadN C (pc' := 95) d13_94 rfl rfl rfl ?_
  refine gF C (pc' := 98) (wd_36 hw) S.2.1 d13_95 rfl ?_
  refine go_iload C (pc' := 100) d13_98 rfl rfl ?_
  refine go_iaget C (pc' := 101) S.2.2.2.2.2.2.2.2.2.2.2.2.2.1 (by decide) (i := 0) (by decide) rfl d13_100 rfl ?_
  refine go_i2l C (pc' := 102) d13_101 rfl ?_
  refine go_ladd C (pc' := 103) d13_102 rfl ?_
  refine go_l2i C (pc' := 104) d13_103 rfl ?_
  refine go_st (st' := [(.int (un e0 (0 : Int32) m0 l0)), (.int (0 : Int32)), (.ref into)]) rfl ?_
  refine go_iaset C (pc' := 105) Ai (by decide) (i := 0) (by decide) (by simp) (vs' := [(.int (un e0 (0 : Int32) m0 l0)), (.int f1), (.int f2), (.int f3), (.int f4)]) rfl d13_104 rfl ni ?_
  intro h1 W1 A1
  refine go_old fun O1 => ?_
  refine gI C (pc' := 108) d13_105 rfl (z := (1 : Int32)) (by decide) (Ls' := #[(.val (.ref b)), (.val (.int j)), (.val (.ref into)), (.val (.ref pg)), (.val (.int J)), (.val (.int (0 : Int32))), (.val (.long e0)), .second, (.val (.int (1 : Int32)))]) rfl rfl ?_
  refine go_goto C (pc' := 59) d13_108 (by decide) (by decide) ?_
  refine go_iload C (pc' := 61) d13_59 rfl rfl ?_
  refine go_aloadN C (pc' := 62) d13_61 rfl rfl rfl ?_
  refine gF C (pc' := 65) (wd_62 hw) (S.2.2.2.1.other W1 (Or.inl (ne_i (by omega)))) d13_62 rfl ?_
  refine go_iload C (pc' := 67) d13_65 rfl rfl ?_
  refine go_iconst C (pc' := 68) d13_67 (z := (1 : Int32)) (by decide) rfl ?_
  refine go_iadd C (pc' := 69) d13_68 rfl ?_
  refine go_st (st' := [(.int (1 : Int32)), (.ref fi), (.int (1 : Int32))]) (by rw [show ((0 : Int32) + (1 : Int32)) = (1 : Int32) from by decide]) ?_
  refine go_iaget C (pc' := 70) (S.2.2.2.2.2.2.2.2.2.2.2.2.2.2.2.2.2.1.other W1 (ne_i (by omega))) (by decide) (i := 1) (by decide) rfl d13_69 rfl ?_
  refine go_icmpNo C (pc' := 73) d13_70 (by decide) rfl ?_
  refine go_aloadN C (pc' := 74) d13_73 rfl rfl rfl ?_
  refine go_iload C (pc' := 76) d13_74 rfl rfl ?_
  refine go_lload C (pc' := 78) d13_76 rfl rfl ?_
  refine go_aloadN C (pc' := 79) d13_78 rfl rfl rfl ?_
  refine gF C (pc' := 82) (wd_40 hw) (S.2.2.2.2.2.1.other W1 (Or.inl (ne_i (by omega)))) d13_79 rfl ?_
  refine go_iload C (pc' := 84) d13_82 rfl rfl ?_
  refine go_iaget C (pc' := 85) (S.2.2.2.2.2.2.2.2.2.2.2.2.2.2.2.1.other W1 (ne_i (by omega))) (by decide) (i := 1) (by decide) rfl d13_84 rfl ?_
  refine go_lushr C (pc' := 86) d13_85 rfl ?_
  refine go_aloadN C (pc' := 87) d13_86 rfl rfl rfl ?_
  refine gF C (pc' := 90) (wd_42 hw) (S.2.2.2.2.2.2.1.other W1 (Or.inl (ne_i (by omega)))) d13_87 rfl ?_
  refine go_iload C (pc' := 92) d13_90 rfl rfl ?_
  refine go_laget C (pc' := 93) (S.2.2.2.2.2.2.2.2.2.2.2.2.2.2.2.2.1.other W1 (ne_i (by omega))) (by decide) (i := 1) (by decide) rfl d13_92 rfl ?_
  refine go_land C (pc' := 94) d13_93 rfl ?_
  refine go_aloadN C (pc' := 95) d13_94 rfl rfl rfl ?_
  refine gF C (pc' := 98) (wd_36 hw) (S.2.1.other W1 (Or.inl (ne_i (by omega)))) d13_95 rfl ?_
  refine go_iload C (pc' := 100) d13_98 rfl rfl ?_
  refine go_iaget C (pc' := 101) (S.2.2.2.2.2.2.2.2.2.2.2.2.2.1.other W1 (ne_i (by omega))) (by decide) (i := 1) (by decide) rfl d13_100 rfl ?_
  refine go_i2l C (pc' := 102) d13_101 rfl ?_
  refine go_ladd C (pc' := 103) d13_102 rfl ?_
  refine go_l2i C (pc' := 104) d13_103 rfl ?_
  refine go_st (st' := [(.int (un e0 s1 m1 l1)), (.int (1 : Int32)), (.ref into)]) rfl ?_
  refine go_iaset C (pc' := 105) A1 (by decide) (i := 1) (by decide) (by simp) (vs' := [(.int (un e0 (0 : Int32) m0 l0)), (.int (un e0 s1 m1 l1)), (.int f2), (.int f3), (.int f4)]) rfl d13_104 rfl ni ?_
  intro h2 W2 A2
  refine go_old fun O2 => ?_
  refine gI C (pc' := 108) d13_105 rfl (z := (2 : Int32)) (by decide) (Ls' := #[(.val (.ref b)), (.val (.int j)), (.val (.ref into)), (.val (.ref pg)), (.val (.int J)), (.val (.int (0 : Int32))), (.val (.long e0)), .second, (.val (.int (2 : Int32)))]) rfl rfl ?_
  refine go_goto C (pc' := 59) d13_108 (by decide) (by decide) ?_
  refine go_iload C (pc' := 61) d13_59 rfl rfl ?_
  refine go_aloadN C (pc' := 62) d13_61 rfl rfl rfl ?_
  have fx3 := ((S.2.2.2.1.other W1 (Or.inl (ne_i (by omega)))).other W2 (Or.inl (ne_i (by omega))))
  refine gF C (pc' := 65) (wd_62 hw) fx3 d13_62 rfl ?_
  refine go_iload C (pc' := 67) d13_65 rfl rfl ?_
  refine go_iconst C (pc' := 68) d13_67 (z := (1 : Int32)) (by decide) rfl ?_
  refine go_iadd C (pc' := 69) d13_68 rfl ?_
  refine go_st (st' := [(.int (1 : Int32)), (.ref fi), (.int (2 : Int32))]) (by rw [show ((0 : Int32) + (1 : Int32)) = (1 : Int32) from by decide]) ?_
  have fx4 := ((S.2.2.2.2.2.2.2.2.2.2.2.2.2.2.2.2.2.1.other W1 (ne_i (by omega))).other W2 (ne_i (by omega)))
  refine go_iaget C (pc' := 70) fx4 (by decide) (i := 1) (by decide) rfl d13_69 rfl ?_
  refine go_icmpNo C (pc' := 73) d13_70 (by decide) rfl ?_
  refine go_aloadN C (pc' := 74) d13_73 rfl rfl rfl ?_
  refine go_iload C (pc' := 76) d13_74 rfl rfl ?_
  refine go_lload C (pc' := 78) d13_76 rfl rfl ?_
  refine go_aloadN C (pc' := 79) d13_78 rfl rfl rfl ?_
  have fx5 := ((S.2.2.2.2.2.1.other W1 (Or.inl (ne_i (by omega)))).other W2 (Or.inl (ne_i (by omega))))
  refine gF C (pc' := 82) (wd_40 hw) fx5 d13_79 rfl ?_
  refine go_iload C (pc' := 84) d13_82 rfl rfl ?_
  have fx6 := ((S.2.2.2.2.2.2.2.2.2.2.2.2.2.2.2.1.other W1 (ne_i (by omega))).other W2 (ne_i (by omega)))
  refine go_iaget C (pc' := 85) fx6 (by decide) (i := 2) (by decide) rfl d13_84 rfl ?_
  refine go_lushr C (pc' := 86) d13_85 rfl ?_
  refine go_aloadN C (pc' := 87) d13_86 rfl rfl rfl ?_
  have fx7 := ((S.2.2.2.2.2.2.1.other W1 (Or.inl (ne_i (by omega)))).other W2 (Or.inl (ne_i (by omega))))
  refine gF C (pc' := 90) (wd_42 hw) fx7 d13_87 rfl ?_
  refine go_iload C (pc' := 92) d13_90 rfl rfl ?_
  have fx8 := ((S.2.2.2.2.2.2.2.2.2.2.2.2.2.2.2.2.1.other W1 (ne_i (by omega))).other W2 (ne_i (by omega)))
  refine go_laget C (pc' := 93) fx8 (by decide) (i := 2) (by decide) rfl d13_92 rfl ?_
  refine go_land C (pc' := 94) d13_93 rfl ?_
  refine go_aloadN C (pc' := 95) d13_94 rfl rfl rfl ?_
  have fx9 := ((S.2.1.other W1 (Or.inl (ne_i (by omega)))).other W2 (Or.inl (ne_i (by omega))))
  refine gF C (pc' := 98) (wd_36 hw) fx9 d13_95 rfl ?_
  refine go_iload C (pc' := 100) d13_98 rfl rfl ?_
  have fx10 := ((S.2.2.2.2.2.2.2.2.2.2.2.2.2.1.other W1 (ne_i (by omega))).other W2 (ne_i (by omega)))
  refine go_iaget C (pc' := 101) fx10 (by decide) (i := 2) (by decide) rfl d13_100 rfl ?_
  refine go_i2l C (pc' := 102) d13_101 rfl ?_
  refine go_ladd C (pc' := 103) d13_102 rfl ?_
  refine go_l2i C (pc' := 104) d13_103 rfl ?_
  refine go_st (st' := [(.int (un e0 s2 m2 l2)), (.int (2 : Int32)), (.ref into)]) rfl ?_
  refine go_iaset C (pc' := 105) A2 (by decide) (i := 2) (by decide) (by simp) (vs' := [(.int (un e0 (0 : Int32) m0 l0)), (.int (un e0 s1 m1 l1)), (.int (un e0 s2 m2 l2)), (.int f3), (.int f4)]) rfl d13_104 rfl ni ?_
  intro h11 W11 A11
  refine go_old fun O11 => ?_
  refine gI C (pc' := 108) d13_105 rfl (z := (3 : Int32)) (by decide) (Ls' := #[(.val (.ref b)), (.val (.int j)), (.val (.ref into)), (.val (.ref pg)), (.val (.int J)), (.val (.int (0 : Int32))), (.val (.long e0)), .second, (.val (.int (3 : Int32)))]) rfl rfl ?_
  refine go_goto C (pc' := 59) d13_108 (by decide) (by decide) ?_
  refine go_iload C (pc' := 61) d13_59 rfl rfl ?_
  refine go_aloadN C (pc' := 62) d13_61 rfl rfl rfl ?_
  refine gF C (pc' := 65) (wd_62 hw) (fx3.other W11 (Or.inl (ne_i (by omega)))) d13_62 rfl ?_
  refine go_iload C (pc' := 67) d13_65 rfl rfl ?_
  refine go_iconst C (pc' := 68) d13_67 (z := (1 : Int32)) (by decide) rfl ?_
  refine go_iadd C (pc' := 69) d13_68 rfl ?_
  refine go_st (st' := [(.int (1 : Int32)), (.ref fi), (.int (3 : Int32))]) (by rw [show ((0 : Int32) + (1 : Int32)) = (1 : Int32) from by decide]) ?_
  refine go_iaget C (pc' := 70) (fx4.other W11 (ne_i (by omega))) (by decide) (i := 1) (by decide) rfl d13_69 rfl ?_
  refine go_icmpYes C (pc' := 111) d13_70 (by decide) (by decide) (by decide) ?_
  refine gI C (pc' := 114) d13_111 rfl (z := (1 : Int32)) (by decide) (Ls' := #[(.val (.ref b)), (.val (.int j)), (.val (.ref into)), (.val (.ref pg)), (.val (.int J)), (.val (.int (1 : Int32))), (.val (.long e0)), .second, (.val (.int (3 : Int32)))]) rfl rfl ?_
  refine go_goto C (pc' := 32) d13_114 (by decide) (by decide) ?_
  refine go_iload C (pc' := 34) d13_32 rfl rfl ?_
  refine go_aloadN C (pc' := 35) d13_34 rfl rfl rfl ?_
  have fx12 := (((S.2.2.2.2.1.other W1 (Or.inl (ne_i (by omega)))).other W2 (Or.inl (ne_i (by omega)))).other W11 (Or.inl (ne_i (by omega))))
  refine gF C (pc' := 38) (wd_64 hw) fx12 d13_35 rfl ?_
  refine go_icmpNo C (pc' := 41) d13_38 (by decide) rfl ?_
  refine go_aloadN C (pc' := 42) d13_41 rfl rfl rfl ?_
  refine go_iload C (pc' := 44) d13_42 rfl rfl ?_
  refine go_iload C (pc' := 46) d13_44 rfl rfl ?_
  refine go_iadd C (pc' := 47) d13_46 rfl ?_
  have fx13 := (((Apg.other W1 (ne_i (by omega))).other W2 (ne_i (by omega))).other W11 (ne_i (by omega)))
  refine go_laget C (pc' := 48) fx13 hn1 (i := i1) hi1 hr1 d13_47 rfl ?_
  refine go_lstore C (pc' := 50) d13_48 (Ls' := #[(.val (.ref b)), (.val (.int j)), (.val (.ref into)), (.val (.ref pg)), (.val (.int J)), (.val (.int (1 : Int32))), (.val (.long e1)), .second, (.val (.int (3 : Int32)))]) rfl rfl ?_
  refine go_aloadN C (pc' := 51) d13_50 rfl rfl rfl ?_
  refine gF C (pc' := 54) (wd_62 hw) (fx3.other W11 (Or.inl (ne_i (by omega)))) d13_51 rfl ?_
  refine go_iload C (pc' := 56) d13_54 rfl rfl ?_
  refine go_iaget C (pc' := 57) (fx4.other W11 (ne_i (by omega))) (by decide) (i := 1) (by decide) rfl d13_56 rfl ?_
  refine go_istore C (pc' := 59) d13_57 (Ls' := #[(.val (.ref b)), (.val (.int j)), (.val (.ref into)), (.val (.ref pg)), (.val (.int J)), (.val (.int (1 : Int32))), (.val (.long e1)), .second, (.val (.int (3 : Int32)))]) rfl rfl ?_
  refine go_iload C (pc' := 61) d13_59 rfl rfl ?_
  refine go_aloadN C (pc' := 62) d13_61 rfl rfl rfl ?_
  refine gF C (pc' := 65) (wd_62 hw) (fx3.other W11 (Or.inl (ne_i (by omega)))) d13_62 rfl ?_
  refine go_iload C (pc' := 67) d13_65 rfl rfl ?_
  refine go_iconst C (pc' := 68) d13_67 (z := (1 : Int32)) (by decide) rfl ?_
  refine go_iadd C (pc' := 69) d13_68 rfl ?_
  refine go_st (st' := [(.int (2 : Int32)), (.ref fi), (.int (3 : Int32))]) (by rw [show ((1 : Int32) + (1 : Int32)) = (2 : Int32) from by decide]) ?_
  refine go_iaget C (pc' := 70) (fx4.other W11 (ne_i (by omega))) (by decide) (i := 2) (by decide) rfl d13_69 rfl ?_
  refine go_icmpNo C (pc' := 73) d13_70 (by decide) rfl ?_
  refine go_aloadN C (pc' := 74) d13_73 rfl rfl rfl ?_
  refine go_iload C (pc' := 76) d13_74 rfl rfl ?_
  refine go_lload C (pc' := 78) d13_76 rfl rfl ?_
  refine go_aloadN C (pc' := 79) d13_78 rfl rfl rfl ?_
  refine gF C (pc' := 82) (wd_40 hw) (fx5.other W11 (Or.inl (ne_i (by omega)))) d13_79 rfl ?_
  refine go_iload C (pc' := 84) d13_82 rfl rfl ?_
  refine go_iaget C (pc' := 85) (fx6.other W11 (ne_i (by omega))) (by decide) (i := 3) (by decide) rfl d13_84 rfl ?_
  refine go_lushr C (pc' := 86) d13_85 rfl ?_
  refine go_aloadN C (pc' := 87) d13_86 rfl rfl rfl ?_
  refine gF C (pc' := 90) (wd_42 hw) (fx7.other W11 (Or.inl (ne_i (by omega)))) d13_87 rfl ?_
  refine go_iload C (pc' := 92) d13_90 rfl rfl ?_
  refine go_laget C (pc' := 93) (fx8.other W11 (ne_i (by omega))) (by decide) (i := 3) (by decide) rfl d13_92 rfl ?_
  refine go_land C (pc' := 94) d13_93 rfl ?_
  refine go_aloadN C (pc' := 95) d13_94 rfl rfl rfl ?_
  refine gF C (pc' := 98) (wd_36 hw) (fx9.other W11 (Or.inl (ne_i (by omega)))) d13_95 rfl ?_
  refine go_iload C (pc' := 100) d13_98 rfl rfl ?_
  refine go_iaget C (pc' := 101) (fx10.other W11 (ne_i (by omega))) (by decide) (i := 3) (by decide) rfl d13_100 rfl ?_
  refine go_i2l C (pc' := 102) d13_101 rfl ?_
  refine go_ladd C (pc' := 103) d13_102 rfl ?_
  refine go_l2i C (pc' := 104) d13_103 rfl ?_
  refine go_st (st' := [(.int (un e1 (0 : Int32) m3 l3)), (.int (3 : Int32)), (.ref into)]) rfl ?_
  refine go_iaset C (pc' := 105) A11 (by decide) (i := 3) (by decide) (by simp) (vs' := [(.int (un e0 (0 : Int32) m0 l0)), (.int (un e0 s1 m1 l1)), (.int (un e0 s2 m2 l2)), (.int (un e1 (0 : Int32) m3 l3)), (.int f4)]) rfl d13_104 rfl ni ?_
  intro h14 W14 A14
  refine go_old fun O14 => ?_
  refine gI C (pc' := 108) d13_105 rfl (z := (4 : Int32)) (by decide) (Ls' := #[(.val (.ref b)), (.val (.int j)), (.val (.ref into)), (.val (.ref pg)), (.val (.int J)), (.val (.int (1 : Int32))), (.val (.long e1)), .second, (.val (.int (4 : Int32)))]) rfl rfl ?_
  refine go_goto C (pc' := 59) d13_108 (by decide) (by decide) ?_
  refine go_iload C (pc' := 61) d13_59 rfl rfl ?_
  refine go_aloadN C (pc' := 62) d13_61 rfl rfl rfl ?_
  have fx15 := ((fx3.other W11 (Or.inl (ne_i (by omega)))).other W14 (Or.inl (ne_i (by omega))))
  refine gF C (pc' := 65) (wd_62 hw) fx15 d13_62 rfl ?_
  refine go_iload C (pc' := 67) d13_65 rfl rfl ?_
  refine go_iconst C (pc' := 68) d13_67 (z := (1 : Int32)) (by decide) rfl ?_
  refine go_iadd C (pc' := 69) d13_68 rfl ?_
  refine go_st (st' := [(.int (2 : Int32)), (.ref fi), (.int (4 : Int32))]) (by rw [show ((1 : Int32) + (1 : Int32)) = (2 : Int32) from by decide]) ?_
  refine go_iaget C (pc' := 70) ((fx4.other W11 (ne_i (by omega))).other W14 (ne_i (by omega))) (by decide) (i := 2) (by decide) rfl d13_69 rfl ?_
  refine go_icmpYes C (pc' := 111) d13_70 (by decide) (by decide) (by decide) ?_
  refine gI C (pc' := 114) d13_111 rfl (z := (2 : Int32)) (by decide) (Ls' := #[(.val (.ref b)), (.val (.int j)), (.val (.ref into)), (.val (.ref pg)), (.val (.int J)), (.val (.int (2 : Int32))), (.val (.long e1)), .second, (.val (.int (4 : Int32)))]) rfl rfl ?_
  refine go_goto C (pc' := 32) d13_114 (by decide) (by decide) ?_
  refine go_iload C (pc' := 34) d13_32 rfl rfl ?_
  refine go_aloadN C (pc' := 35) d13_34 rfl rfl rfl ?_
  refine gF C (pc' := 38) (wd_64 hw) (fx12.other W14 (Or.inl (ne_i (by omega)))) d13_35 rfl ?_
  refine go_icmpYes C (pc' := 117) d13_38 (by decide) (by decide) (by decide) ?_
  exact go_ret0 C d13_117 (by decide) (by decide) ⟨rfl, A14, (((((Keep.refl _ [into]).wr W1 (Or.inl (by simp))).wr W2 (Or.inl (by simp))).wr W11 (Or.inl (by simp))).wr W14 (Or.inl (by simp)))⟩
set_option maxRecDepth 65536 in
set_option maxHeartbeats 4000000 in
theorem add2_2_0_met (l : Launch) (Z : State) (a0 : Array Value) (hw : ∀ d ∈ tables_1, d.before a0 Z = true) (n0 : Nat) (h : Heap) (O : Old Z n0 h)  {b pgs tb lo hi sh mk fi km pk : Nat} {kpgs ktb klo khi ksh kmk kfi kkm kpk : ClassId} {l0 u0 l1 u1 l2 u2 l3 u3 s1 s2 : Int32} {m0 m1 m2 m3 KM0 KM1 : Int64} {vt : List Value} {hs : Int32} {p0 q0 p1 q1 : Int64} (S : Sto Z h b pgs tb lo hi sh mk fi km pk kpgs ktb klo khi ksh kmk kfi kkm kpk (2 : Int32) (19 : Int32) (0 : Int32) [.null] vt [(.int l0), (.int l1), (.int l2), (.int l3)] [(.int u0), (.int u1), (.int u2), (.int u3)] [(.int (0 : Int32)), (.int s1), (.int s2), (.int (0 : Int32))] [(.long m0), (.long m1), (.long m2), (.long m3)] [(.int (0 : Int32)), (.int (3 : Int32)), (.int (4 : Int32))] [(.long KM0), (.long KM1)] [(.long p0), (.long p1)]) (o : Ord n0 b pgs tb lo hi sh mk fi km pk) {cf : Nat} {kcf : ClassId} {c0 c1 c2 c3 : Int32} (Acf : Ar Z h cf .int kcf [(.int c0), (.int c1), (.int c2), (.int c3)]) (qcf : cf < b) (hl0 : ¬ c0 < l0) (hu0 : ¬ u0 < c0) (hl1 : ¬ c1 < l1) (hu1 : ¬ u1 < c1) (hl2 : ¬ c2 < l2) (hu2 : ¬ u2 < c2) (hl3 : ¬ c3 < l3) (hu3 : ¬ u3 < c3) (hP0 : ((((0 : Int64) ||| (pt c0 l0 (0 : Int32))) ||| (pt c1 l1 s1)) ||| (pt c2 l2 s2)) = q0) (hP1 : ((0 : Int64) ||| (pt c3 l3 (0 : Int32))) = q1) (hhs : (hfin (hst (hst (0 : Int64) q0 KM0) q1 KM1)) = hs) (T : T0 vt) :
    Met l Z n0 (⟨"com/example/invariant/invariant/check/ConfigurationStore", "add", "([ILjava/util/function/IntPredicate;)I"⟩ : MethodName) prog_52_method_8_code 8 (some .int) [] ({ frames := 2, cells := 1, slots := 128, locals := 40 } : Room) #[(.ref b), (.ref cf), .null] h (fun v h' => v = some (.int (0 : Int32)) ∧ ∃ (pg : Nat) (kpg : ClassId) (vt' : List Value), T1 vt' hs ∧ pk < pg ∧ Sto Z h' b pgs tb lo hi sh mk fi km pk kpgs ktb klo khi ksh kmk kfi kkm kpk (2 : Int32) (19 : Int32) (1 : Int32) [(.ref pg)] vt' [(.int l0), (.int l1), (.int l2), (.int l3)] [(.int u0), (.int u1), (.int u2), (.int u3)] [(.int (0 : Int32)), (.int s1), (.int s2), (.int (0 : Int32))] [(.long m0), (.long m1), (.long m2), (.long m3)] [(.int (0 : Int32)), (.int (3 : Int32)), (.int (4 : Int32))] [(.long KM0), (.long KM1)] [(.long q0), (.long q1)] ∧ Ar Z h' pg .long kpg (.long q0 :: .long q1 :: List.replicate 126 (.long (0 : Int64))) ∧ Keep h h' [b, pgs, tb, pk]) := by
  refine met_of (Ls := #[(.val (.ref b)), (.val (.ref cf)), (.val .null), .unset, .unset, .unset, .unset, .unset]) (by decide +kernel) (fun m => by first | (simp [entryFrame, mkF, argsToLocals, Value.category]; done) | rfl) O ?_
  intro p e s m below meth cd C
  have o' := o
  obtain ⟨o0, o1, o2, o3, o4, o5, o6, o7, o8, o9⟩ := o
  refine go_aloadN C (pc' := 1) d14_0 rfl rfl rfl ?_
  refine go_aloadN C (pc' := 2) d14_1 rfl rfl rfl ?_
  refine go_callP C (pc' := 5) (y' := (⟨"com/example/invariant/invariant/check/ConfigurationStore", "pack", "([I)I"⟩ : MethodName)) (wd_85 hw) (wd_86 hw) (wd_87 hw) (wd_12 hw) (pack2_met l Z a0 hw _ _ O S o' Acf qcf hl0 hu0 hl1 hu1 hl2 hu2 hl3 hu3) (wd_88 hw) (wd_13 hw) (by decide) (by decide) (W := 0) (Nat.le_of_ble_eq_true rfl) (by decide) (by decide) (by decide) rfl S.1 (argsL := [(.ref cf)]) (rest := []) pd_5 rfl rfl rfl d14_2 rfl ?_
  rintro _ h1 ⟨rfl, S1, Kp1⟩
  refine go_st (st' := [(.int (hfin (hst (hst (0 : Int64) ((((0 : Int64) ||| (pt c0 l0 (0 : Int32))) ||| (pt c1 l1 s1)) ||| (pt c2 l2 s2)) KM0) ((0 : Int64) ||| (pt c3 l3 (0 : Int32))) KM1)))]) rfl ?_
  refine go_old fun O1 => ?_
  rw [hP0, hP1] at S1
  refine go_st (st' := [(.int hs)]) (by rw [hP0, hP1, hhs]) ?_
  refine go_istoreN C (pc' := 6) d14_5 (Ls' := #[(.val (.ref b)), (.val (.ref cf)), (.val .null), (.val (.int hs)), .unset, .unset, .unset, .unset]) rfl rfl ?_
  refine go_aloadN C (pc' := 7) d14_6 rfl rfl rfl ?_
  refine go_iloadN C (pc' := 8) d14_7 rfl rfl ?_
  refine go_callP C (pc' := 11) (y' := (⟨"com/example/invariant/invariant/check/ConfigurationStore", "slot", "(I)I"⟩ : MethodName)) (wd_91 hw) (wd_92 hw) (wd_93 hw) (wd_12 hw) (slotA2_met l Z a0 hw _ _ O1 hs T.1 ⟨S1.1, S1.2.1, S1.2.2.1, S1.2.2.2.1, S1.2.2.2.2.1, S1.2.2.2.2.2.1, S1.2.2.2.2.2.2.1, S1.2.2.2.2.2.2.2.1, S1.2.2.2.2.2.2.2.2.1, S1.2.2.2.2.2.2.2.2.2.1, S1.2.2.2.2.2.2.2.2.2.2.1, S1.2.2.2.2.2.2.2.2.2.2.2.1, S1.2.2.2.2.2.2.2.2.2.2.2.2.1, S1.2.2.2.2.2.2.2.2.2.2.2.2.2.1, S1.2.2.2.2.2.2.2.2.2.2.2.2.2.2.1, S1.2.2.2.2.2.2.2.2.2.2.2.2.2.2.2.1, S1.2.2.2.2.2.2.2.2.2.2.2.2.2.2.2.2.1, S1.2.2.2.2.2.2.2.2.2.2.2.2.2.2.2.2.2.1, S1.2.2.2.2.2.2.2.2.2.2.2.2.2.2.2.2.2.2.1, S1.2.2.2.2.2.2.2.2.2.2.2.2.2.2.2.2.2.2.2.1, S1.2.2.2.2.2.2.2.2.2.2.2.2.2.2.2.2.2.2.2.2.1, S1.2.2.2.2.2.2.2.2.2.2.2.2.2.2.2.2.2.2.2.2.2.1, S1.2.2.2.2.2.2.2.2.2.2.2.2.2.2.2.2.2.2.2.2.2.2⟩ (T.2 _ (and127 _).2)) (wd_94 hw) (wd_13 hw) (by decide) (by decide) (W := 0) (Nat.le_of_ble_eq_true rfl) (by decide) (by decide) (by decide) rfl S1.1 (argsL := [(.int hs)]) (rest := []) pd_0 rfl rfl rfl d14_8 rfl ?_
  rintro _ _ ⟨rfl, rfl⟩
  refine go_st (st' := [(.int (hs &&& (127 : Int32)))]) rfl ?_
  refine go_istore C (pc' := 13) d14_11 (Ls' := #[(.val (.ref b)), (.val (.ref cf)), (.val .null), (.val (.int hs)), (.val (.int (hs &&& (127 : Int32)))), .unset, .unset, .unset]) rfl rfl ?_
  refine go_aloadN C (pc' := 14) d14_13 rfl rfl rfl ?_
  refine gF C (pc' := 17) (wd_25 hw) S1.2.2.2.2.2.2.2.2.2.2.2.1 d14_14 rfl ?_
  refine go_iload C (pc' := 19) d14_17 rfl rfl ?_
  refine go_laget C (pc' := 20) S1.2.2.2.2.2.2.2.2.2.2.2.2.2.2.1 (and127 _).1 (i := _) rfl (T.2 _ (and127 _).2) d14_19 rfl ?_
  refine go_lconst C (pc' := 21) d14_20 (z := (0 : Int64)) (by decide) rfl ?_
  refine go_lcmp C (pc' := 22) d14_21 rfl ?_
  refine go_st (st' := [(.int (0 : Int32))]) (by rw [show (lcmpW (0 : Int64) (0 : Int64)) = (0 : Int32) from by decide]) ?_
  refine go_ifYes C (pc' := 36) d14_22 (by decide) (by decide) (by decide) ?_
  refine go_aloadN C (pc' := 37) d14_36 rfl rfl rfl ?_
  refine go_iloadN C (pc' := 38) d14_37 rfl rfl ?_
  refine go_aloadN C (pc' := 39) d14_38 rfl rfl rfl ?_
  refine go_callP C (pc' := 42) (y' := (⟨"com/example/invariant/invariant/check/ConfigurationStore", "holder", "(ILjava/util/function/IntPredicate;)I"⟩ : MethodName)) (wd_95 hw) (wd_96 hw) (wd_97 hw) (wd_12 hw) (holder2_met l Z a0 hw _ _ O1 hs T.1 ⟨S1.1, S1.2.1, S1.2.2.1, S1.2.2.2.1, S1.2.2.2.2.1, S1.2.2.2.2.2.1, S1.2.2.2.2.2.2.1, S1.2.2.2.2.2.2.2.1, S1.2.2.2.2.2.2.2.2.1, S1.2.2.2.2.2.2.2.2.2.1, S1.2.2.2.2.2.2.2.2.2.2.1, S1.2.2.2.2.2.2.2.2.2.2.2.1, S1.2.2.2.2.2.2.2.2.2.2.2.2.1, S1.2.2.2.2.2.2.2.2.2.2.2.2.2.1, S1.2.2.2.2.2.2.2.2.2.2.2.2.2.2.1, S1.2.2.2.2.2.2.2.2.2.2.2.2.2.2.2.1, S1.2.2.2.2.2.2.2.2.2.2.2.2.2.2.2.2.1, S1.2.2.2.2.2.2.2.2.2.2.2.2.2.2.2.2.2.1, S1.2.2.2.2.2.2.2.2.2.2.2.2.2.2.2.2.2.2.1, S1.2.2.2.2.2.2.2.2.2.2.2.2.2.2.2.2.2.2.2.1, S1.2.2.2.2.2.2.2.2.2.2.2.2.2.2.2.2.2.2.2.2.1, S1.2.2.2.2.2.2.2.2.2.2.2.2.2.2.2.2.2.2.2.2.2.1, S1.2.2.2.2.2.2.2.2.2.2.2.2.2.2.2.2.2.2.2.2.2.2⟩) (wd_98 hw) (wd_13 hw) (by decide) (by decide) (W := 0) (Nat.le_of_ble_eq_true rfl) (by decide) (by decide) (by decide) rfl S1.1 (argsL := [(.int hs), .null]) (rest := []) pd_6 rfl rfl rfl d14_39 rfl ?_
  rintro _ _ ⟨rfl, rfl⟩
  refine go_st (st' := [(.int (-1 : Int32))]) rfl ?_
  refine go_istore C (pc' := 44) d14_42 (Ls' := #[(.val (.ref b)), (.val (.ref cf)), (.val .null), (.val (.int hs)), (.val (.int (hs &&& (127 : Int32)))), (.val (.int (-1 : Int32))), .unset, .unset]) rfl rfl ?_
  refine go_iload C (pc' := 46) d14_44 rfl rfl ?_
  refine go_ifYes C (pc' := 52) d14_46 (by decide) (by decide) (by decide) ?_
  refine go_aloadN C (pc' := 53) d14_52 rfl rfl rfl ?_
  refine gF C (pc' := 56) (wd_99 hw) S1.2.2.2.2.2.2.2.2.2.2.1 d14_53 rfl ?_
  refine go_aloadN C (pc' := 57) d14_56 rfl rfl rfl ?_
  refine go_callV C (pc' := 60) (y' := (⟨"com/example/invariant/invariant/check/ConfigurationStore", "capacity", "()I"⟩ : MethodName)) (wd_101 hw) (wd_102 hw) (wd_104 hw) (wd_103 hw) (cap_met l Z a0 hw _ _ O1 b) (wd_105 hw) (wd_13 hw) (by decide) (by decide) (W := 1) (Nat.le_of_ble_eq_true rfl) (by decide) (by decide) (by decide) rfl S1.1 (argsL := []) (rest := [(.int (0 : Int32))]) pd_7 rfl rfl rfl d14_57 rfl ?_
  rintro _ _ ⟨rfl, rfl⟩
  refine go_st (st' := [(.int (536870912 : Int32)), (.int (0 : Int32))]) rfl ?_
  refine go_icmpYes C (pc' := 80) d14_60 (by decide) (by decide) (by decide) ?_
  refine go_aloadN C (pc' := 81) d14_80 rfl rfl rfl ?_
  refine gF C (pc' := 84) (wd_99 hw) S1.2.2.2.2.2.2.2.2.2.2.1 d14_81 rfl ?_
  refine go_aloadN C (pc' := 85) d14_84 rfl rfl rfl ?_
  refine gF C (pc' := 88) (wd_71 hw) S1.2.2.2.2.2.2.2.2.1 d14_85 rfl ?_
  refine go_iushr C (pc' := 89) d14_88 rfl ?_
  refine go_st (st' := [(.int (0 : Int32))]) (by rw [show (((0 : Int32)).toUInt32 >>> ((19 : Int32) &&& 31).toUInt32).toInt32 = (0 : Int32) from by decide]) ?_
  refine go_istore C (pc' := 91) d14_89 (Ls' := #[(.val (.ref b)), (.val (.ref cf)), (.val .null), (.val (.int hs)), (.val (.int (hs &&& (127 : Int32)))), (.val (.int (-1 : Int32))), (.val (.int (0 : Int32))), .unset]) rfl rfl ?_
  refine go_aloadN C (pc' := 92) d14_91 rfl rfl rfl ?_
  refine gF C (pc' := 95) (wd_99 hw) S1.2.2.2.2.2.2.2.2.2.2.1 d14_92 rfl ?_
  refine go_iconst C (pc' := 96) d14_95 (z := (1 : Int32)) (by decide) rfl ?_
  refine go_aloadN C (pc' := 97) d14_96 rfl rfl rfl ?_
  refine gF C (pc' := 100) (wd_71 hw) S1.2.2.2.2.2.2.2.2.1 d14_97 rfl ?_
  refine go_ishl C (pc' := 101) d14_100 rfl ?_
  refine go_st (st' := [(.int (524288 : Int32)), (.int (0 : Int32))]) (by rw [show ((1 : Int32) <<< ((19 : Int32) &&& 31)) = (524288 : Int32) from by decide]) ?_
  refine go_iconst C (pc' := 102) d14_101 (z := (1 : Int32)) (by decide) rfl ?_
  refine go_isub C (pc' := 103) d14_102 rfl ?_
  refine go_st (st' := [(.int (524287 : Int32)), (.int (0 : Int32))]) (by rw [show ((524288 : Int32) - (1 : Int32)) = (524287 : Int32) from by decide]) ?_
  refine go_iand C (pc' := 104) d14_103 rfl ?_
  refine go_st (st' := [(.int (0 : Int32))]) (by rw [show ((0 : Int32) &&& (524287 : Int32)) = (0 : Int32) from by decide]) ?_
  refine go_aloadN C (pc' := 105) d14_104 rfl rfl rfl ?_
  refine gF C (pc' := 108) (wd_64 hw) S1.2.2.2.2.1 d14_105 rfl ?_
  refine go_imul C (pc' := 109) d14_108 rfl ?_
  refine go_st (st' := [(.int (0 : Int32))]) (by rw [show ((0 : Int32) * (2 : Int32)) = (0 : Int32) from by decide]) ?_
  refine go_istore C (pc' := 111) d14_109 (Ls' := #[(.val (.ref b)), (.val (.ref cf)), (.val .null), (.val (.int hs)), (.val (.int (hs &&& (127 : Int32)))), (.val (.int (-1 : Int32))), (.val (.int (0 : Int32))), (.val (.int (0 : Int32)))]) rfl rfl ?_
  refine go_iload C (pc' := 113) d14_111 rfl rfl ?_
  refine go_aloadN C (pc' := 114) d14_113 rfl rfl rfl ?_
  refine gF C (pc' := 117) (wd_22 hw) S1.2.2.2.2.2.2.2.2.2.1 d14_114 rfl ?_
  refine go_alen C (pc' := 118) S1.2.2.2.2.2.2.2.2.2.2.2.2.2.1 (z := (1 : Int32)) rfl d14_117 rfl ?_
  refine go_icmpNo C (pc' := 121) d14_118 (by decide) rfl ?_
  refine go_aloadN C (pc' := 122) d14_121 rfl rfl rfl ?_
  refine gF C (pc' := 125) (wd_22 hw) S1.2.2.2.2.2.2.2.2.2.1 d14_122 rfl ?_
  refine go_iload C (pc' := 127) d14_125 rfl rfl ?_
  refine go_raget C (pc' := 128) S1.2.2.2.2.2.2.2.2.2.2.2.2.2.1 rfl (by decide) (i := 0) (by decide) rfl d14_127 rfl ?_
  refine go_ifnullYes C (pc' := 144) d14_128 (by decide) (by decide) ?_
  refine go_aloadN C (pc' := 145) d14_144 rfl rfl rfl ?_
  refine go_iload C (pc' := 147) d14_145 rfl rfl ?_
  refine go_iload C (pc' := 149) d14_147 rfl rfl ?_
  refine go_callP C (pc' := 152) (y' := (⟨"com/example/invariant/invariant/check/ConfigurationStore", "makeRoom", "(II)V"⟩ : MethodName)) (wd_107 hw) (wd_108 hw) (wd_109 hw) (wd_12 hw) (makeRoom2_met l Z a0 hw _ _ O1 ⟨S1.1, S1.2.1, S1.2.2.1, S1.2.2.2.1, S1.2.2.2.2.1, S1.2.2.2.2.2.1, S1.2.2.2.2.2.2.1, S1.2.2.2.2.2.2.2.1, S1.2.2.2.2.2.2.2.2.1, S1.2.2.2.2.2.2.2.2.2.1, S1.2.2.2.2.2.2.2.2.2.2.1, S1.2.2.2.2.2.2.2.2.2.2.2.1, S1.2.2.2.2.2.2.2.2.2.2.2.2.1, S1.2.2.2.2.2.2.2.2.2.2.2.2.2.1, S1.2.2.2.2.2.2.2.2.2.2.2.2.2.2.1, S1.2.2.2.2.2.2.2.2.2.2.2.2.2.2.2.1, S1.2.2.2.2.2.2.2.2.2.2.2.2.2.2.2.2.1, S1.2.2.2.2.2.2.2.2.2.2.2.2.2.2.2.2.2.1, S1.2.2.2.2.2.2.2.2.2.2.2.2.2.2.2.2.2.2.1, S1.2.2.2.2.2.2.2.2.2.2.2.2.2.2.2.2.2.2.2.1, S1.2.2.2.2.2.2.2.2.2.2.2.2.2.2.2.2.2.2.2.2.1, S1.2.2.2.2.2.2.2.2.2.2.2.2.2.2.2.2.2.2.2.2.2.1, S1.2.2.2.2.2.2.2.2.2.2.2.2.2.2.2.2.2.2.2.2.2.2⟩ o') (wd_110 hw) (wd_13 hw) (by decide) (by decide) (W := 0) (Nat.le_of_ble_eq_true rfl) (by decide) (by decide) (by decide) rfl S1.1 (argsL := [(.int (0 : Int32)), (.int (0 : Int32))]) (rest := []) pd_8 rfl rfl rfl d14_149 rfl ?_
  rintro _ h2 ⟨rfl, pg, kpg, qpg, qsz, S2, Apg, Kr2⟩
  refine go_st (st' := []) rfl ?_
  refine go_old fun O2 => ?_
  have szpg := Nat.le_trans Kp1.1 qsz
  refine go_aloadN C (pc' := 153) d14_152 rfl rfl rfl ?_
  refine gF C (pc' := 156) (wd_73 hw) S2.2.2.2.2.2.2.2.2.2.2.2.2.1 d14_153 rfl ?_
  refine go_iconst C (pc' := 157) d14_156 (z := (0 : Int32)) (by decide) rfl ?_
  refine go_aloadN C (pc' := 158) d14_157 rfl rfl rfl ?_
  refine gF C (pc' := 161) (wd_22 hw) S2.2.2.2.2.2.2.2.2.2.1 d14_158 rfl ?_
  refine go_iload C (pc' := 163) d14_161 rfl rfl ?_
  refine go_raget C (pc' := 164) S2.2.2.2.2.2.2.2.2.2.2.2.2.2.1 rfl (by decide) (i := 0) (by decide) rfl d14_163 rfl ?_
  refine go_iload C (pc' := 166) d14_164 rfl rfl ?_
  refine go_aloadN C (pc' := 167) d14_166 rfl rfl rfl ?_
  refine gF C (pc' := 170) (wd_64 hw) S2.2.2.2.2.1 d14_167 rfl ?_
  refine go_acopy C (pc' := 173) (wd_113 hw) (wd_61 hw) (wd_59 hw) (wd_60 hw) S2.2.2.2.2.2.2.2.2.2.2.2.2.2.2.2.2.2.2.2.2.2.1 Apg rfl (by simp [fits]) (by simp [fits]) (by simp) (by simp) (by decide) (i := 0) (by decide) (by decide) (j := 0) (by decide) (by decide) (q := 2) (by decide) (by simp) (by simp) (vs' := (.long q0 :: .long q1 :: List.replicate 126 (.long (0 : Int64)))) rfl rfl d14_170 rfl (by omega) (by decide) (W := 0) (Nat.le_of_ble_eq_true rfl) (by decide) ?_
  intro h3 K3 A3
  refine go_old fun O3 => ?_
  refine go_aloadN C (pc' := 174) d14_173 rfl rfl rfl ?_
  refine go_dup C (pc' := 175) d14_174 rfl rfl ?_
  refine gF C (pc' := 178) (wd_99 hw) (S2.2.2.2.2.2.2.2.2.2.2.1.keep K3 (ninS (ne_i (by omega)) nin0)) d14_175 rfl ?_
  refine go_iconst C (pc' := 179) d14_178 (z := (1 : Int32)) (by decide) rfl ?_
  refine go_iadd C (pc' := 180) d14_179 rfl ?_
  refine go_st (st' := [(.int (1 : Int32)), (.ref b)]) (by rw [show ((0 : Int32) + (1 : Int32)) = (1 : Int32) from by decide]) ?_
  refine go_putF C (pc' := 183) (host := "") (Or.inl (wd_99 hw)) Via.refl (S2.2.2.2.2.2.2.2.2.2.2.1.keep K3 (ninS (ne_i (by omega)) nin0)) (S2.1.keep K3) (Or.inl (wd_100 hw)) (wd_12 hw) (ty := .int) (by decide) rfl rfl d14_180 rfl (by omega) ?_
  intro h4 W4 F4
  refine go_old fun O4 => ?_
  refine go_aloadN C (pc' := 184) d14_183 rfl rfl rfl ?_
  have fx5 := ((S2.2.2.2.2.2.2.2.2.2.2.2.1.keep K3 (ninS (ne_i (by omega)) nin0)).other W4 (Or.inr (sn_46 hw).symm))
  refine gF C (pc' := 187) (wd_25 hw) fx5 d14_184 rfl ?_
  refine go_iload C (pc' := 189) d14_187 rfl rfl ?_
  refine go_iloadN C (pc' := 190) d14_189 rfl rfl ?_
  refine go_i2l C (pc' := 191) d14_190 rfl ?_
  refine go_bipush C (pc' := 193) d14_191 (z := (32 : Int32)) (by decide) rfl ?_
  refine go_lshl C (pc' := 194) d14_193 rfl ?_
  refine go_aloadN C (pc' := 195) d14_194 rfl rfl rfl ?_
  refine gF C (pc' := 198) (wd_99 hw) F4 d14_195 rfl ?_
  refine go_i2l C (pc' := 199) d14_198 rfl ?_
  refine go_st (st' := [(.long (1 : Int64)), (.long ((hs).toInt64 <<< ((32 : Int32) &&& 0x3f).toInt64)), (.int (hs &&& (127 : Int32))), (.ref tb)]) (by rw [show ((1 : Int32)).toInt64 = (1 : Int64) from by decide]) ?_
  refine go_lor C (pc' := 200) d14_199 rfl ?_
  refine go_st (st' := [(.long (ent hs (1 : Int64))), (.int (hs &&& (127 : Int32))), (.ref tb)]) rfl ?_
  have fx6 := ((S2.2.2.2.2.2.2.2.2.2.2.2.2.2.2.1.keep K3 (ninS (ne_i (by omega)) nin0)).other W4 (ne_i (by omega)))
  refine go_laset C (pc' := 201) fx6 (and127 _).1 (i := _) rfl (by rw [T.1]; exact (and127 _).2) (vs' := (vt.set (hs &&& (127 : Int32)).toNatClampNeg (.long (ent hs (1 : Int64))))) rfl d14_200 rfl (by omega) ?_
  intro h7 W7 A7
  refine go_old fun O7 => ?_
  refine go_ldcLong C (pc' := 204) (wd_114 hw) d14_201 rfl ?_
  refine go_aloadN C (pc' := 205) d14_204 rfl rfl rfl ?_
  refine gF C (pc' := 208) (wd_99 hw) (F4.other W7 (Or.inl (ne_i (by omega)))) d14_205 rfl ?_
  refine go_i2l C (pc' := 209) d14_208 rfl ?_
  refine go_st (st' := [(.long (1 : Int64)), (.long (2 : Int64))]) (by rw [show ((1 : Int32)).toInt64 = (1 : Int64) from by decide]) ?_
  refine go_lmul C (pc' := 210) d14_209 rfl ?_
  refine go_st (st' := [(.long (2 : Int64))]) (by rw [show ((2 : Int64) * (1 : Int64)) = (2 : Int64) from by decide]) ?_
  refine go_aloadN C (pc' := 211) d14_210 rfl rfl rfl ?_
  refine gF C (pc' := 214) (wd_25 hw) (fx5.other W7 (Or.inl (ne_i (by omega)))) d14_211 rfl ?_
  refine go_alen C (pc' := 215) A7 (z := (128 : Int32)) (by rw [List.length_set, T.1]; rfl) d14_214 rfl ?_
  refine go_i2l C (pc' := 216) d14_215 rfl ?_
  refine go_st (st' := [(.long (128 : Int64)), (.long (2 : Int64))]) (by rw [show ((128 : Int32)).toInt64 = (128 : Int64) from by decide]) ?_
  refine go_lcmp C (pc' := 217) d14_216 rfl ?_
  refine go_st (st' := [(.int (-1 : Int32))]) (by rw [show (lcmpW (2 : Int64) (128 : Int64)) = (-1 : Int32) from by decide]) ?_
  refine go_ifYes C (pc' := 224) d14_217 (by decide) (by decide) (by decide) ?_
  refine go_aloadN C (pc' := 225) d14_224 rfl rfl rfl ?_
  refine gF C (pc' := 228) (wd_99 hw) (F4.other W7 (Or.inl (ne_i (by omega)))) d14_225 rfl ?_
  refine go_iconst C (pc' := 229) d14_228 (z := (1 : Int32)) (by decide) rfl ?_
  refine go_isub C (pc' := 230) d14_229 rfl ?_
  refine go_st (st' := [(.int (0 : Int32))]) (by rw [show ((1 : Int32) - (1 : Int32)) = (0 : Int32) from by decide]) ?_
  have fx8 := (((S2.2.1.keep K3 (ninS (ne_i (by omega)) nin0)).other W4 (Or.inr (sn_47 hw).symm)).other W7 (Or.inl (ne_i (by omega))))
  have fx9 := (((S2.2.2.1.keep K3 (ninS (ne_i (by omega)) nin0)).other W4 (Or.inr (sn_48 hw).symm)).other W7 (Or.inl (ne_i (by omega))))
  have fx10 := (((S2.2.2.2.1.keep K3 (ninS (ne_i (by omega)) nin0)).other W4 (Or.inr (sn_51 hw).symm)).other W7 (Or.inl (ne_i (by omega))))
  have fx11 := (((S2.2.2.2.2.1.keep K3 (ninS (ne_i (by omega)) nin0)).other W4 (Or.inr (sn_52 hw).symm)).other W7 (Or.inl (ne_i (by omega))))
  have fx12 := (((S2.2.2.2.2.2.1.keep K3 (ninS (ne_i (by omega)) nin0)).other W4 (Or.inr (sn_49 hw).symm)).other W7 (Or.inl (ne_i (by omega))))
  have fx13 := (((S2.2.2.2.2.2.2.1.keep K3 (ninS (ne_i (by omega)) nin0)).other W4 (Or.inr (sn_50 hw).symm)).other W7 (Or.inl (ne_i (by omega))))
  have fx14 := (((S2.2.2.2.2.2.2.2.1.keep K3 (ninS (ne_i (by omega)) nin0)).other W4 (Or.inr (sn_53 hw).symm)).other W7 (Or.inl (ne_i (by omega))))
  have fx15 := (((S2.2.2.2.2.2.2.2.2.1.keep K3 (ninS (ne_i (by omega)) nin0)).other W4 (Or.inr (sn_64 hw).symm)).other W7 (Or.inl (ne_i (by omega))))
  have fx16 := (((S2.2.2.2.2.2.2.2.2.2.1.keep K3 (ninS (ne_i (by omega)) nin0)).other W4 (Or.inr (sn_45 hw).symm)).other W7 (Or.inl (ne_i (by omega))))
  have fx17 := (((S2.2.2.2.2.2.2.2.2.2.2.2.2.1.keep K3 (ninS (ne_i (by omega)) nin0)).other W4 (Or.inr (sn_65 hw).symm)).other W7 (Or.inl (ne_i (by omega))))
  have fx18 := (((S2.2.2.2.2.2.2.2.2.2.2.2.2.2.1.keep K3 (ninS (ne_i (by omega)) nin0)).other W4 (ne_i (by omega))).other W7 (ne_i (by omega)))
  have fx19 := (((S2.2.2.2.2.2.2.2.2.2.2.2.2.2.2.2.1.keep K3 (ninS (ne_i (by omega)) nin0)).other W4 (ne_i (by omega))).other W7 (ne_i (by omega)))
  have fx20 := (((S2.2.2.2.2.2.2.2.2.2.2.2.2.2.2.2.2.1.keep K3 (ninS (ne_i (by omega)) nin0)).other W4 (ne_i (by omega))).other W7 (ne_i (by omega)))
  have fx21 := (((S2.2.2.2.2.2.2.2.2.2.2.2.2.2.2.2.2.2.1.keep K3 (ninS (ne_i (by omega)) nin0)).other W4 (ne_i (by omega))).other W7 (ne_i (by omega)))
  have fx22 := (((S2.2.2.2.2.2.2.2.2.2.2.2.2.2.2.2.2.2.2.1.keep K3 (ninS (ne_i (by omega)) nin0)).other W4 (ne_i (by omega))).other W7 (ne_i (by omega)))
  have fx23 := (((S2.2.2.2.2.2.2.2.2.2.2.2.2.2.2.2.2.2.2.2.1.keep K3 (ninS (ne_i (by omega)) nin0)).other W4 (ne_i (by omega))).other W7 (ne_i (by omega)))
  have fx24 := (((S2.2.2.2.2.2.2.2.2.2.2.2.2.2.2.2.2.2.2.2.2.1.keep K3 (ninS (ne_i (by omega)) nin0)).other W4 (ne_i (by omega))).other W7 (ne_i (by omega)))
  have fx25 := (((S2.2.2.2.2.2.2.2.2.2.2.2.2.2.2.2.2.2.2.2.2.2.1.keep K3 (ninS (ne_i (by omega)) nin0)).other W4 (ne_i (by omega))).other W7 (ne_i (by omega)))
  exact go_retI C d14_230 (by decide) (by decide) ⟨rfl, pg, kpg, _, T1.of T, qpg, ⟨(((S2.1.keep K3).wr W4).wr W7), fx8, fx9, fx10, fx11, fx12, fx13, fx14, fx15, fx16, (F4.other W7 (Or.inl (ne_i (by omega)))), (fx5.other W7 (Or.inl (ne_i (by omega)))), fx17, fx18, A7, fx19, fx20, fx21, fx22, fx23, fx24, fx25, S2.2.2.2.2.2.2.2.2.2.2.2.2.2.2.2.2.2.2.2.2.2.2⟩, ((A3.other W4 (ne_i (by omega))).other W7 (ne_i (by omega))), ((((((Keep.refl _ [b, pgs, tb, pk]).trans Kp1 (allS (Or.inl (by simp)) all0)).trans Kr2 (allS (Or.inl (by simp)) all0)).trans K3 (allS (Or.inr szpg) all0)).wr W4 (Or.inl (by simp))).wr W7 (Or.inl (by simp)))⟩
set_option maxRecDepth 65536 in
set_option maxHeartbeats 4000000 in
theorem add2_0_met (l : Launch) (Z : State) (a0 : Array Value) (hw : ∀ d ∈ tables_1, d.before a0 Z = true) (n0 : Nat) (h : Heap) (O : Old Z n0 h)  {b pgs tb lo hi sh mk fi km pk : Nat} {kpgs ktb klo khi ksh kmk kfi kkm kpk : ClassId} {l0 u0 l1 u1 l2 u2 l3 u3 s1 s2 : Int32} {m0 m1 m2 m3 KM0 KM1 : Int64} {vt : List Value} {hs : Int32} {p0 q0 p1 q1 : Int64} (S : Sto Z h b pgs tb lo hi sh mk fi km pk kpgs ktb klo khi ksh kmk kfi kkm kpk (2 : Int32) (19 : Int32) (0 : Int32) [.null] vt [(.int l0), (.int l1), (.int l2), (.int l3)] [(.int u0), (.int u1), (.int u2), (.int u3)] [(.int (0 : Int32)), (.int s1), (.int s2), (.int (0 : Int32))] [(.long m0), (.long m1), (.long m2), (.long m3)] [(.int (0 : Int32)), (.int (3 : Int32)), (.int (4 : Int32))] [(.long KM0), (.long KM1)] [(.long p0), (.long p1)]) (o : Ord n0 b pgs tb lo hi sh mk fi km pk) {cf : Nat} {kcf : ClassId} {c0 c1 c2 c3 : Int32} (Acf : Ar Z h cf .int kcf [(.int c0), (.int c1), (.int c2), (.int c3)]) (qcf : cf < b) (hl0 : ¬ c0 < l0) (hu0 : ¬ u0 < c0) (hl1 : ¬ c1 < l1) (hu1 : ¬ u1 < c1) (hl2 : ¬ c2 < l2) (hu2 : ¬ u2 < c2) (hl3 : ¬ c3 < l3) (hu3 : ¬ u3 < c3) (hP0 : ((((0 : Int64) ||| (pt c0 l0 (0 : Int32))) ||| (pt c1 l1 s1)) ||| (pt c2 l2 s2)) = q0) (hP1 : ((0 : Int64) ||| (pt c3 l3 (0 : Int32))) = q1) (hhs : (hfin (hst (hst (0 : Int64) q0 KM0) q1 KM1)) = hs) (T : T0 vt) :
    Met l Z n0 (⟨"com/example/invariant/invariant/check/ConfigurationStore", "add", "([I)I"⟩ : MethodName) prog_52_method_7_code 2 (some .int) [] ({ frames := 3, cells := 1, slots := 128, locals := 59 } : Room) #[(.ref b), (.ref cf)] h (fun v h' => v = some (.int (0 : Int32)) ∧ ∃ (pg : Nat) (kpg : ClassId) (vt' : List Value), T1 vt' hs ∧ pk < pg ∧ Sto Z h' b pgs tb lo hi sh mk fi km pk kpgs ktb klo khi ksh kmk kfi kkm kpk (2 : Int32) (19 : Int32) (1 : Int32) [(.ref pg)] vt' [(.int l0), (.int l1), (.int l2), (.int l3)] [(.int u0), (.int u1), (.int u2), (.int u3)] [(.int (0 : Int32)), (.int s1), (.int s2), (.int (0 : Int32))] [(.long m0), (.long m1), (.long m2), (.long m3)] [(.int (0 : Int32)), (.int (3 : Int32)), (.int (4 : Int32))] [(.long KM0), (.long KM1)] [(.long q0), (.long q1)] ∧ Ar Z h' pg .long kpg (.long q0 :: .long q1 :: List.replicate 126 (.long (0 : Int64))) ∧ Keep h h' [b, pgs, tb, pk]) := by
  refine met_of (Ls := #[(.val (.ref b)), (.val (.ref cf))]) (by decide +kernel) (fun m => by first | (simp [entryFrame, mkF, argsToLocals, Value.category]; done) | rfl) O ?_
  intro p e s m below meth cd C
  refine go_aloadN C (pc' := 1) d15_0 rfl rfl rfl ?_
  refine go_aloadN C (pc' := 2) d15_1 rfl rfl rfl ?_
  refine go_aconstNull C (pc' := 3) d15_2 rfl ?_
  refine go_callV C (pc' := 6) (y' := (⟨"com/example/invariant/invariant/check/ConfigurationStore", "add", "([ILjava/util/function/IntPredicate;)I"⟩ : MethodName)) (wd_80 hw) (wd_81 hw) (wd_83 hw) (wd_82 hw) (add2_2_0_met l Z a0 hw _ _ O S o Acf qcf hl0 hu0 hl1 hu1 hl2 hu2 hl3 hu3 hP0 hP1 hhs T) (wd_84 hw) (wd_13 hw) (by decide) (by decide) (W := 0) (Nat.le_of_ble_eq_true rfl) (by decide) (by decide) (by decide) rfl S.1 (argsL := [(.ref cf), .null]) (rest := []) pd_9 rfl rfl rfl d15_3 rfl ?_
  rintro _ h1 ⟨rfl, hq⟩
  refine go_st (st' := [(.int (0 : Int32))]) rfl ?_
  exact go_retI C d15_6 (by decide) (by decide) ⟨rfl, hq⟩
set_option maxRecDepth 65536 in
set_option maxHeartbeats 4000000 in
theorem add2_2_1_met (l : Launch) (Z : State) (a0 : Array Value) (hw : ∀ d ∈ tables_1, d.before a0 Z = true) (n0 : Nat) (h : Heap) (O : Old Z n0 h)  {b pgs tb lo hi sh mk fi km pk : Nat} {kpgs ktb klo khi ksh kmk kfi kkm kpk : ClassId} {l0 u0 l1 u1 l2 u2 l3 u3 s1 s2 : Int32} {m0 m1 m2 m3 KM0 KM1 : Int64} {vt : List Value} {hs g : Int32} {p0 q0 e0 p1 q1 e1 : Int64} {pg : Nat} {kpg : ClassId} (S : Sto Z h b pgs tb lo hi sh mk fi km pk kpgs ktb klo khi ksh kmk kfi kkm kpk (2 : Int32) (19 : Int32) (1 : Int32) [(.ref pg)] vt [(.int l0), (.int l1), (.int l2), (.int l3)] [(.int u0), (.int u1), (.int u2), (.int u3)] [(.int (0 : Int32)), (.int s1), (.int s2), (.int (0 : Int32))] [(.long m0), (.long m1), (.long m2), (.long m3)] [(.int (0 : Int32)), (.int (3 : Int32)), (.int (4 : Int32))] [(.long KM0), (.long KM1)] [(.long p0), (.long p1)]) (o : Ord n0 b pgs tb lo hi sh mk fi km pk) {cf : Nat} {kcf : ClassId} {c0 c1 c2 c3 : Int32} (Acf : Ar Z h cf .int kcf [(.int c0), (.int c1), (.int c2), (.int c3)]) (qcf : cf < b) (hl0 : ¬ c0 < l0) (hu0 : ¬ u0 < c0) (hl1 : ¬ c1 < l1) (hu1 : ¬ u1 < c1) (hl2 : ¬ c2 < l2) (hu2 : ¬ u2 < c2) (hl3 : ¬ c3 < l3) (hu3 : ¬ u3 < c3) (hP0 : ((((0 : Int64) ||| (pt c0 l0 (0 : Int32))) ||| (pt c1 l1 s1)) ||| (pt c2 l2 s2)) = q0) (hP1 : ((0 : Int64) ||| (pt c3 l3 (0 : Int32))) = q1) (hhs : (hfin (hst (hst (0 : Int64) q0 KM0) q1 KM1)) = hs) (T : T1 vt g) (hg : (hfin (hst (hst (0 : Int64) e0 KM0) e1 KM1)) = g) (qpg : pk < pg) (Apg : Ar Z h pg .long kpg (.long e0 :: .long e1 :: List.replicate 126 (.long (0 : Int64)))) :
    Met l Z n0 (⟨"com/example/invariant/invariant/check/ConfigurationStore", "add", "([ILjava/util/function/IntPredicate;)I"⟩ : MethodName) prog_52_method_8_code 8 (some .int) [] ({ frames := 2, cells := 0, slots := 0, locals := 40 } : Room) #[(.ref b), (.ref cf), .null] h (fun v h' => ∃ (r : Int32) (sz' : Int32) (vt' vg : List Value), v = some (.int r) ∧ (r = 0 ∧ (q0 = e0 ∧ q1 = e1) ∧ vg = (.long e0 :: .long e1 :: List.replicate 126 (.long (0 : Int64))) ∨ r = 1 ∧ ¬ (q0 = e0 ∧ q1 = e1) ∧ vg = (.long e0 :: .long e1 :: .long q0 :: .long q1 :: List.replicate 124 (.long (0 : Int64)))) ∧ Sto Z h' b pgs tb lo hi sh mk fi km pk kpgs ktb klo khi ksh kmk kfi kkm kpk (2 : Int32) (19 : Int32) sz' [(.ref pg)] vt' [(.int l0), (.int l1), (.int l2), (.int l3)] [(.int u0), (.int u1), (.int u2), (.int u3)] [(.int (0 : Int32)), (.int s1), (.int s2), (.int (0 : Int32))] [(.long m0), (.long m1), (.long m2), (.long m3)] [(.int (0 : Int32)), (.int (3 : Int32)), (.int (4 : Int32))] [(.long KM0), (.long KM1)] [(.long q0), (.long q1)] ∧ Ar Z h' pg .long kpg vg ∧ Keep h h' [b, tb, pk, pg]) := by
  refine met_of (Ls := #[(.val (.ref b)), (.val (.ref cf)), (.val .null), .unset, .unset, .unset, .unset, .unset]) (by decide +kernel) (fun m => by first | (simp [entryFrame, mkF, argsToLocals, Value.category]; done) | rfl) O ?_
  intro p e s m below meth cd C
  have o' := o
  obtain ⟨o0, o1, o2, o3, o4, o5, o6, o7, o8, o9⟩ := o
  refine go_aloadN C (pc' := 1) d14_0 rfl rfl rfl ?_
  refine go_aloadN C (pc' := 2) d14_1 rfl rfl rfl ?_
  refine go_callP C (pc' := 5) (y' := (⟨"com/example/invariant/invariant/check/ConfigurationStore", "pack", "([I)I"⟩ : MethodName)) (wd_85 hw) (wd_86 hw) (wd_87 hw) (wd_12 hw) (pack2_met l Z a0 hw _ _ O S o' Acf qcf hl0 hu0 hl1 hu1 hl2 hu2 hl3 hu3) (wd_88 hw) (wd_13 hw) (by decide) (by decide) (W := 0) (Nat.le_of_ble_eq_true rfl) (by decide) (by decide) (by decide) rfl S.1 (argsL := [(.ref cf)]) (rest := []) pd_5 rfl rfl rfl d14_2 rfl ?_
  rintro _ h1 ⟨rfl, S1, Kp1⟩
  refine go_st (st' := [(.int (hfin (hst (hst (0 : Int64) ((((0 : Int64) ||| (pt c0 l0 (0 : Int32))) ||| (pt c1 l1 s1)) ||| (pt c2 l2 s2)) KM0) ((0 : Int64) ||| (pt c3 l3 (0 : Int32))) KM1)))]) rfl ?_
  refine go_old fun O1 => ?_
  rw [hP0, hP1] at S1
  refine go_st (st' := [(.int hs)]) (by rw [hP0, hP1, hhs]) ?_
  refine go_istoreN C (pc' := 6) d14_5 (Ls' := #[(.val (.ref b)), (.val (.ref cf)), (.val .null), (.val (.int hs)), .unset, .unset, .unset, .unset]) rfl rfl ?_
  refine go_aloadN C (pc' := 7) d14_6 rfl rfl rfl ?_
  refine go_iloadN C (pc' := 8) d14_7 rfl rfl ?_
  by_cases hq : (hs &&& (127 : Int32)).toNatClampNeg = (g &&& (127 : Int32)).toNatClampNeg
  · refine go_callP C (pc' := 11) (y' := (⟨"com/example/invariant/invariant/check/ConfigurationStore", "slot", "(I)I"⟩ : MethodName)) (wd_91 hw) (wd_92 hw) (wd_93 hw) (wd_12 hw) (slotB2_met l Z a0 hw _ _ O1 hs T.1 ⟨S1.1, S1.2.1, S1.2.2.1, S1.2.2.2.1, S1.2.2.2.2.1, S1.2.2.2.2.2.1, S1.2.2.2.2.2.2.1, S1.2.2.2.2.2.2.2.1, S1.2.2.2.2.2.2.2.2.1, S1.2.2.2.2.2.2.2.2.2.1, S1.2.2.2.2.2.2.2.2.2.2.1, S1.2.2.2.2.2.2.2.2.2.2.2.1, S1.2.2.2.2.2.2.2.2.2.2.2.2.1, S1.2.2.2.2.2.2.2.2.2.2.2.2.2.1, S1.2.2.2.2.2.2.2.2.2.2.2.2.2.2.1, S1.2.2.2.2.2.2.2.2.2.2.2.2.2.2.2.1, S1.2.2.2.2.2.2.2.2.2.2.2.2.2.2.2.2.1, S1.2.2.2.2.2.2.2.2.2.2.2.2.2.2.2.2.2.1, S1.2.2.2.2.2.2.2.2.2.2.2.2.2.2.2.2.2.2.1, S1.2.2.2.2.2.2.2.2.2.2.2.2.2.2.2.2.2.2.2.1, S1.2.2.2.2.2.2.2.2.2.2.2.2.2.2.2.2.2.2.2.2.1, S1.2.2.2.2.2.2.2.2.2.2.2.2.2.2.2.2.2.2.2.2.2.1, S1.2.2.2.2.2.2.2.2.2.2.2.2.2.2.2.2.2.2.2.2.2.2⟩ (Apg.keep Kp1 (ninS (ne_i (by omega)) nin0)) (ent_num g) (ent_ne g) (hq ▸ T.2.2) (T.2.1 _ (and127 _).2 (hq ▸ next_ne hs))) (wd_94 hw) (wd_13 hw) (by decide) (by decide) (W := 0) (Nat.le_of_ble_eq_true rfl) (by decide) (by decide) (by decide) rfl S1.1 (argsL := [(.int hs)]) (rest := []) pd_0 rfl rfl rfl d14_8 rfl ?_
    rintro _ _ ⟨r, rfl, hr, rfl⟩
    refine go_st (st' := [(.int r)]) rfl ?_
    rcases hr with ⟨rfl, hr⟩ | ⟨rfl, hr⟩
    · refine go_istore C (pc' := 13) d14_11 (Ls' := #[(.val (.ref b)), (.val (.ref cf)), (.val .null), (.val (.int hs)), (.val (.int (hs &&& (127 : Int32)))), .unset, .unset, .unset]) rfl rfl ?_
      refine go_aloadN C (pc' := 14) d14_13 rfl rfl rfl ?_
      refine gF C (pc' := 17) (wd_25 hw) S1.2.2.2.2.2.2.2.2.2.2.2.1 d14_14 rfl ?_
      refine go_iload C (pc' := 19) d14_17 rfl rfl ?_
      refine go_laget C (pc' := 20) S1.2.2.2.2.2.2.2.2.2.2.2.2.2.2.1 (and127 _).1 (i := _) rfl (hq ▸ T.2.2) d14_19 rfl ?_
      refine go_lconst C (pc' := 21) d14_20 (z := (0 : Int64)) (by decide) rfl ?_
      refine go_lcmp C (pc' := 22) d14_21 rfl ?_
      refine go_ifNo C (pc' := 25) d14_22 ((if0 _ _).trans (feq (fun z => ent_ne g ((lw_eq _ _).mp z))).1) rfl ?_
      refine go_aloadN C (pc' := 26) d14_25 rfl rfl rfl ?_
      refine gF C (pc' := 29) (wd_25 hw) S1.2.2.2.2.2.2.2.2.2.2.2.1 d14_26 rfl ?_
      refine go_iload C (pc' := 31) d14_29 rfl rfl ?_
      refine go_laget C (pc' := 32) S1.2.2.2.2.2.2.2.2.2.2.2.2.2.2.1 (and127 _).1 (i := _) rfl (hq ▸ T.2.2) d14_31 rfl ?_
      refine go_l2i C (pc' := 33) d14_32 rfl ?_
      refine go_iconst C (pc' := 34) d14_33 (z := (1 : Int32)) (by decide) rfl ?_
      refine go_isub C (pc' := 35) d14_34 rfl ?_
      refine go_st (st' := [(.int (0 : Int32))]) (by rw [ent_num g]) ?_
      exact go_retI C d14_35 (by decide) (by decide) ⟨_, _, _, _, rfl, Or.inl ⟨rfl, ⟨hr.2.1.symm, hr.2.2.symm⟩, rfl⟩, ⟨S1.1, S1.2.1, S1.2.2.1, S1.2.2.2.1, S1.2.2.2.2.1, S1.2.2.2.2.2.1, S1.2.2.2.2.2.2.1, S1.2.2.2.2.2.2.2.1, S1.2.2.2.2.2.2.2.2.1, S1.2.2.2.2.2.2.2.2.2.1, S1.2.2.2.2.2.2.2.2.2.2.1, S1.2.2.2.2.2.2.2.2.2.2.2.1, S1.2.2.2.2.2.2.2.2.2.2.2.2.1, S1.2.2.2.2.2.2.2.2.2.2.2.2.2.1, S1.2.2.2.2.2.2.2.2.2.2.2.2.2.2.1, S1.2.2.2.2.2.2.2.2.2.2.2.2.2.2.2.1, S1.2.2.2.2.2.2.2.2.2.2.2.2.2.2.2.2.1, S1.2.2.2.2.2.2.2.2.2.2.2.2.2.2.2.2.2.1, S1.2.2.2.2.2.2.2.2.2.2.2.2.2.2.2.2.2.2.1, S1.2.2.2.2.2.2.2.2.2.2.2.2.2.2.2.2.2.2.2.1, S1.2.2.2.2.2.2.2.2.2.2.2.2.2.2.2.2.2.2.2.2.1, S1.2.2.2.2.2.2.2.2.2.2.2.2.2.2.2.2.2.2.2.2.2.1, S1.2.2.2.2.2.2.2.2.2.2.2.2.2.2.2.2.2.2.2.2.2.2⟩, (Apg.keep Kp1 (ninS (ne_i (by omega)) nin0)), ((Keep.refl _ [b, tb, pk, pg]).trans Kp1 (allS (Or.inl (by simp)) all0))⟩
    · refine go_istore C (pc' := 13) d14_11 (Ls' := #[(.val (.ref b)), (.val (.ref cf)), (.val .null), (.val (.int hs)), (.val (.int (((hs &&& (127 : Int32)) + (1 : Int32)) &&& (127 : Int32)))), .unset, .unset, .unset]) rfl rfl ?_
      refine go_aloadN C (pc' := 14) d14_13 rfl rfl rfl ?_
      refine gF C (pc' := 17) (wd_25 hw) S1.2.2.2.2.2.2.2.2.2.2.2.1 d14_14 rfl ?_
      refine go_iload C (pc' := 19) d14_17 rfl rfl ?_
      refine go_laget C (pc' := 20) S1.2.2.2.2.2.2.2.2.2.2.2.2.2.2.1 (and127 _).1 (i := _) rfl (T.2.1 _ (and127 _).2 (hq ▸ next_ne hs)) d14_19 rfl ?_
      refine go_lconst C (pc' := 21) d14_20 (z := (0 : Int64)) (by decide) rfl ?_
      refine go_lcmp C (pc' := 22) d14_21 rfl ?_
      refine go_st (st' := [(.int (0 : Int32))]) (by rw [show (lcmpW (0 : Int64) (0 : Int64)) = (0 : Int32) from by decide]) ?_
      refine go_ifYes C (pc' := 36) d14_22 (by decide) (by decide) (by decide) ?_
      refine go_aloadN C (pc' := 37) d14_36 rfl rfl rfl ?_
      refine go_iloadN C (pc' := 38) d14_37 rfl rfl ?_
      refine go_aloadN C (pc' := 39) d14_38 rfl rfl rfl ?_
      refine go_callP C (pc' := 42) (y' := (⟨"com/example/invariant/invariant/check/ConfigurationStore", "holder", "(ILjava/util/function/IntPredicate;)I"⟩ : MethodName)) (wd_95 hw) (wd_96 hw) (wd_97 hw) (wd_12 hw) (holder2_met l Z a0 hw _ _ O1 hs T.1 ⟨S1.1, S1.2.1, S1.2.2.1, S1.2.2.2.1, S1.2.2.2.2.1, S1.2.2.2.2.2.1, S1.2.2.2.2.2.2.1, S1.2.2.2.2.2.2.2.1, S1.2.2.2.2.2.2.2.2.1, S1.2.2.2.2.2.2.2.2.2.1, S1.2.2.2.2.2.2.2.2.2.2.1, S1.2.2.2.2.2.2.2.2.2.2.2.1, S1.2.2.2.2.2.2.2.2.2.2.2.2.1, S1.2.2.2.2.2.2.2.2.2.2.2.2.2.1, S1.2.2.2.2.2.2.2.2.2.2.2.2.2.2.1, S1.2.2.2.2.2.2.2.2.2.2.2.2.2.2.2.1, S1.2.2.2.2.2.2.2.2.2.2.2.2.2.2.2.2.1, S1.2.2.2.2.2.2.2.2.2.2.2.2.2.2.2.2.2.1, S1.2.2.2.2.2.2.2.2.2.2.2.2.2.2.2.2.2.2.1, S1.2.2.2.2.2.2.2.2.2.2.2.2.2.2.2.2.2.2.2.1, S1.2.2.2.2.2.2.2.2.2.2.2.2.2.2.2.2.2.2.2.2.1, S1.2.2.2.2.2.2.2.2.2.2.2.2.2.2.2.2.2.2.2.2.2.1, S1.2.2.2.2.2.2.2.2.2.2.2.2.2.2.2.2.2.2.2.2.2.2⟩) (wd_98 hw) (wd_13 hw) (by decide) (by decide) (W := 0) (Nat.le_of_ble_eq_true rfl) (by decide) (by decide) (by decide) rfl S1.1 (argsL := [(.int hs), .null]) (rest := []) pd_6 rfl rfl rfl d14_39 rfl ?_
      rintro _ _ ⟨rfl, rfl⟩
      refine go_st (st' := [(.int (-1 : Int32))]) rfl ?_
      refine go_istore C (pc' := 44) d14_42 (Ls' := #[(.val (.ref b)), (.val (.ref cf)), (.val .null), (.val (.int hs)), (.val (.int (((hs &&& (127 : Int32)) + (1 : Int32)) &&& (127 : Int32)))), (.val (.int (-1 : Int32))), .unset, .unset]) rfl rfl ?_
      refine go_iload C (pc' := 46) d14_44 rfl rfl ?_
      refine go_ifYes C (pc' := 52) d14_46 (by decide) (by decide) (by decide) ?_
      refine go_aloadN C (pc' := 53) d14_52 rfl rfl rfl ?_
      refine gF C (pc' := 56) (wd_99 hw) S1.2.2.2.2.2.2.2.2.2.2.1 d14_53 rfl ?_
      refine go_aloadN C (pc' := 57) d14_56 rfl rfl rfl ?_
      refine go_callV C (pc' := 60) (y' := (⟨"com/example/invariant/invariant/check/ConfigurationStore", "capacity", "()I"⟩ : MethodName)) (wd_101 hw) (wd_102 hw) (wd_104 hw) (wd_103 hw) (cap_met l Z a0 hw _ _ O1 b) (wd_105 hw) (wd_13 hw) (by decide) (by decide) (W := 1) (Nat.le_of_ble_eq_true rfl) (by decide) (by decide) (by decide) rfl S1.1 (argsL := []) (rest := [(.int (1 : Int32))]) pd_7 rfl rfl rfl d14_57 rfl ?_
      rintro _ _ ⟨rfl, rfl⟩
      refine go_st (st' := [(.int (536870912 : Int32)), (.int (1 : Int32))]) rfl ?_
      refine go_icmpYes C (pc' := 80) d14_60 (by decide) (by decide) (by decide) ?_
      refine go_aloadN C (pc' := 81) d14_80 rfl rfl rfl ?_
      refine gF C (pc' := 84) (wd_99 hw) S1.2.2.2.2.2.2.2.2.2.2.1 d14_81 rfl ?_
      refine go_aloadN C (pc' := 85) d14_84 rfl rfl rfl ?_
      refine gF C (pc' := 88) (wd_71 hw) S1.2.2.2.2.2.2.2.2.1 d14_85 rfl ?_
      refine go_iushr C (pc' := 89) d14_88 rfl ?_
      refine go_st (st' := [(.int (0 : Int32))]) (by rw [show (((1 : Int32)).toUInt32 >>> ((19 : Int32) &&& 31).toUInt32).toInt32 = (0 : Int32) from by decide]) ?_
      refine go_istore C (pc' := 91) d14_89 (Ls' := #[(.val (.ref b)), (.val (.ref cf)), (.val .null), (.val (.int hs)), (.val (.int (((hs &&& (127 : Int32)) + (1 : Int32)) &&& (127 : Int32)))), (.val (.int (-1 : Int32))), (.val (.int (0 : Int32))), .unset]) rfl rfl ?_
      refine go_aloadN C (pc' := 92) d14_91 rfl rfl rfl ?_
      refine gF C (pc' := 95) (wd_99 hw) S1.2.2.2.2.2.2.2.2.2.2.1 d14_92 rfl ?_
      refine go_iconst C (pc' := 96) d14_95 (z := (1 : Int32)) (by decide) rfl ?_
      refine go_aloadN C (pc' := 97) d14_96 rfl rfl rfl ?_
      refine gF C (pc' := 100) (wd_71 hw) S1.2.2.2.2.2.2.2.2.1 d14_97 rfl ?_
      refine go_ishl C (pc' := 101) d14_100 rfl ?_
      refine go_st (st' := [(.int (524288 : Int32)), (.int (1 : Int32))]) (by rw [show ((1 : Int32) <<< ((19 : Int32) &&& 31)) = (524288 : Int32) from by decide]) ?_
      refine go_iconst C (pc' := 102) d14_101 (z := (1 : Int32)) (by decide) rfl ?_
      refine go_isub C (pc' := 103) d14_102 rfl ?_
      refine go_st (st' := [(.int (524287 : Int32)), (.int (1 : Int32))]) (by rw [show ((524288 : Int32) - (1 : Int32)) = (524287 : Int32) from by decide]) ?_
      refine go_iand C (pc' := 104) d14_103 rfl ?_
      refine go_st (st' := [(.int (1 : Int32))]) (by rw [show ((1 : Int32) &&& (524287 : Int32)) = (1 : Int32) from by decide]) ?_
      refine go_aloadN C (pc' := 105) d14_104 rfl rfl rfl ?_
      refine gF C (pc' := 108) (wd_64 hw) S1.2.2.2.2.1 d14_105 rfl ?_
      refine go_imul C (pc' := 109) d14_108 rfl ?_
      refine go_st (st' := [(.int (2 : Int32))]) (by rw [show ((1 : Int32) * (2 : Int32)) = (2 : Int32) from by decide]) ?_
      refine go_istore C (pc' := 111) d14_109 (Ls' := #[(.val (.ref b)), (.val (.ref cf)), (.val .null), (.val (.int hs)), (.val (.int (((hs &&& (127 : Int32)) + (1 : Int32)) &&& (127 : Int32)))), (.val (.int (-1 : Int32))), (.val (.int (0 : Int32))), (.val (.int (2 : Int32)))]) rfl rfl ?_
      refine go_iload C (pc' := 113) d14_111 rfl rfl ?_
      refine go_aloadN C (pc' := 114) d14_113 rfl rfl rfl ?_
      refine gF C (pc' := 117) (wd_22 hw) S1.2.2.2.2.2.2.2.2.2.1 d14_114 rfl ?_
      refine go_alen C (pc' := 118) S1.2.2.2.2.2.2.2.2.2.2.2.2.2.1 (z := (1 : Int32)) rfl d14_117 rfl ?_
      refine go_icmpNo C (pc' := 121) d14_118 (by decide) rfl ?_
      refine go_aloadN C (pc' := 122) d14_121 rfl rfl rfl ?_
      refine gF C (pc' := 125) (wd_22 hw) S1.2.2.2.2.2.2.2.2.2.1 d14_122 rfl ?_
      refine go_iload C (pc' := 127) d14_125 rfl rfl ?_
      refine go_raget C (pc' := 128) S1.2.2.2.2.2.2.2.2.2.2.2.2.2.1 rfl (by decide) (i := 0) (by decide) rfl d14_127 rfl ?_
      refine go_ifnullNo C (pc' := 131) d14_128 rfl ?_
      refine go_aloadN C (pc' := 132) d14_131 rfl rfl rfl ?_
      refine gF C (pc' := 135) (wd_22 hw) S1.2.2.2.2.2.2.2.2.2.1 d14_132 rfl ?_
      refine go_iload C (pc' := 137) d14_135 rfl rfl ?_
      refine go_raget C (pc' := 138) S1.2.2.2.2.2.2.2.2.2.2.2.2.2.1 rfl (by decide) (i := 0) (by decide) rfl d14_137 rfl ?_
      refine go_alen C (pc' := 139) (Apg.keep Kp1 (ninS (ne_i (by omega)) nin0)) (z := (128 : Int32)) (by rfl) d14_138 rfl ?_
      refine go_iload C (pc' := 141) d14_139 rfl rfl ?_
      refine go_icmpYes C (pc' := 152) d14_141 (by decide) (by decide) (by decide) ?_
      refine go_aloadN C (pc' := 153) d14_152 rfl rfl rfl ?_
      refine gF C (pc' := 156) (wd_73 hw) S1.2.2.2.2.2.2.2.2.2.2.2.2.1 d14_153 rfl ?_
      refine go_iconst C (pc' := 157) d14_156 (z := (0 : Int32)) (by decide) rfl ?_
      refine go_aloadN C (pc' := 158) d14_157 rfl rfl rfl ?_
      refine gF C (pc' := 161) (wd_22 hw) S1.2.2.2.2.2.2.2.2.2.1 d14_158 rfl ?_
      refine go_iload C (pc' := 163) d14_161 rfl rfl ?_
      refine go_raget C (pc' := 164) S1.2.2.2.2.2.2.2.2.2.2.2.2.2.1 rfl (by decide) (i := 0) (by decide) rfl d14_163 rfl ?_
      refine go_iload C (pc' := 166) d14_164 rfl rfl ?_
      refine go_aloadN C (pc' := 167) d14_166 rfl rfl rfl ?_
      refine gF C (pc' := 170) (wd_64 hw) S1.2.2.2.2.1 d14_167 rfl ?_
      refine go_acopy C (pc' := 173) (wd_113 hw) (wd_61 hw) (wd_59 hw) (wd_60 hw) S1.2.2.2.2.2.2.2.2.2.2.2.2.2.2.2.2.2.2.2.2.2.1 (Apg.keep Kp1 (ninS (ne_i (by omega)) nin0)) rfl (by simp [fits]) (by simp [fits]) (by simp) (by simp) (by decide) (i := 0) (by decide) (by decide) (j := 2) (by decide) (by decide) (q := 2) (by decide) (by simp) (by simp) (vs' := (.long e0 :: .long e1 :: .long q0 :: .long q1 :: List.replicate 124 (.long (0 : Int64)))) rfl rfl d14_170 rfl (by omega) (by decide) (W := 0) (Nat.le_of_ble_eq_true rfl) (by decide) ?_
      intro h2 K2 A2
      refine go_old fun O2 => ?_
      refine go_aloadN C (pc' := 174) d14_173 rfl rfl rfl ?_
      refine go_dup C (pc' := 175) d14_174 rfl rfl ?_
      refine gF C (pc' := 178) (wd_99 hw) (S1.2.2.2.2.2.2.2.2.2.2.1.keep K2 (ninS (ne_i (by omega)) nin0)) d14_175 rfl ?_
      refine go_iconst C (pc' := 179) d14_178 (z := (1 : Int32)) (by decide) rfl ?_
      refine go_iadd C (pc' := 180) d14_179 rfl ?_
      refine go_st (st' := [(.int (2 : Int32)), (.ref b)]) (by rw [show ((1 : Int32) + (1 : Int32)) = (2 : Int32) from by decide]) ?_
      refine go_putF C (pc' := 183) (host := "") (Or.inl (wd_99 hw)) Via.refl (S1.2.2.2.2.2.2.2.2.2.2.1.keep K2 (ninS (ne_i (by omega)) nin0)) (S1.1.keep K2) (Or.inl (wd_100 hw)) (wd_12 hw) (ty := .int) (by decide) rfl rfl d14_180 rfl (by omega) ?_
      intro h3 W3 F3
      refine go_old fun O3 => ?_
      refine go_aloadN C (pc' := 184) d14_183 rfl rfl rfl ?_
      have fx4 := ((S1.2.2.2.2.2.2.2.2.2.2.2.1.keep K2 (ninS (ne_i (by omega)) nin0)).other W3 (Or.inr (sn_46 hw).symm))
      refine gF C (pc' := 187) (wd_25 hw) fx4 d14_184 rfl ?_
      refine go_iload C (pc' := 189) d14_187 rfl rfl ?_
      refine go_iloadN C (pc' := 190) d14_189 rfl rfl ?_
      refine go_i2l C (pc' := 191) d14_190 rfl ?_
      refine go_bipush C (pc' := 193) d14_191 (z := (32 : Int32)) (by decide) rfl ?_
      refine go_lshl C (pc' := 194) d14_193 rfl ?_
      refine go_aloadN C (pc' := 195) d14_194 rfl rfl rfl ?_
      refine gF C (pc' := 198) (wd_99 hw) F3 d14_195 rfl ?_
      refine go_i2l C (pc' := 199) d14_198 rfl ?_
      refine go_st (st' := [(.long (2 : Int64)), (.long ((hs).toInt64 <<< ((32 : Int32) &&& 0x3f).toInt64)), (.int (((hs &&& (127 : Int32)) + (1 : Int32)) &&& (127 : Int32))), (.ref tb)]) (by rw [show ((2 : Int32)).toInt64 = (2 : Int64) from by decide]) ?_
      refine go_lor C (pc' := 200) d14_199 rfl ?_
      refine go_st (st' := [(.long (ent hs (2 : Int64))), (.int (((hs &&& (127 : Int32)) + (1 : Int32)) &&& (127 : Int32))), (.ref tb)]) rfl ?_
      have fx5 := ((S1.2.2.2.2.2.2.2.2.2.2.2.2.2.2.1.keep K2 (ninS (ne_i (by omega)) nin0)).other W3 (ne_i (by omega)))
      refine go_laset C (pc' := 201) fx5 (and127 _).1 (i := _) rfl (by rw [T.1]; exact (and127 _).2) (vs' := (vt.set (((hs &&& (127 : Int32)) + (1 : Int32)) &&& (127 : Int32)).toNatClampNeg (.long (ent hs (2 : Int64))))) rfl d14_200 rfl (by omega) ?_
      intro h6 W6 A6
      refine go_old fun O6 => ?_
      refine go_ldcLong C (pc' := 204) (wd_114 hw) d14_201 rfl ?_
      refine go_aloadN C (pc' := 205) d14_204 rfl rfl rfl ?_
      refine gF C (pc' := 208) (wd_99 hw) (F3.other W6 (Or.inl (ne_i (by omega)))) d14_205 rfl ?_
      refine go_i2l C (pc' := 209) d14_208 rfl ?_
      refine go_st (st' := [(.long (2 : Int64)), (.long (2 : Int64))]) (by rw [show ((2 : Int32)).toInt64 = (2 : Int64) from by decide]) ?_
      refine go_lmul C (pc' := 210) d14_209 rfl ?_
      refine go_st (st' := [(.long (4 : Int64))]) (by rw [show ((2 : Int64) * (2 : Int64)) = (4 : Int64) from by decide]) ?_
      refine go_aloadN C (pc' := 211) d14_210 rfl rfl rfl ?_
      refine gF C (pc' := 214) (wd_25 hw) (fx4.other W6 (Or.inl (ne_i (by omega)))) d14_211 rfl ?_
      refine go_alen C (pc' := 215) A6 (z := (128 : Int32)) (by rw [List.length_set, T.1]; rfl) d14_214 rfl ?_
      refine go_i2l C (pc' := 216) d14_215 rfl ?_
      refine go_st (st' := [(.long (128 : Int64)), (.long (4 : Int64))]) (by rw [show ((128 : Int32)).toInt64 = (128 : Int64) from by decide]) ?_
      refine go_lcmp C (pc' := 217) d14_216 rfl ?_
      refine go_st (st' := [(.int (-1 : Int32))]) (by rw [show (lcmpW (4 : Int64) (128 : Int64)) = (-1 : Int32) from by decide]) ?_
      refine go_ifYes C (pc' := 224) d14_217 (by decide) (by decide) (by decide) ?_
      refine go_aloadN C (pc' := 225) d14_224 rfl rfl rfl ?_
      refine gF C (pc' := 228) (wd_99 hw) (F3.other W6 (Or.inl (ne_i (by omega)))) d14_225 rfl ?_
      refine go_iconst C (pc' := 229) d14_228 (z := (1 : Int32)) (by decide) rfl ?_
      refine go_isub C (pc' := 230) d14_229 rfl ?_
      refine go_st (st' := [(.int (1 : Int32))]) (by rw [show ((2 : Int32) - (1 : Int32)) = (1 : Int32) from by decide]) ?_
      have fx7 := (((S1.2.1.keep K2 (ninS (ne_i (by omega)) nin0)).other W3 (Or.inr (sn_47 hw).symm)).other W6 (Or.inl (ne_i (by omega))))
      have fx8 := (((S1.2.2.1.keep K2 (ninS (ne_i (by omega)) nin0)).other W3 (Or.inr (sn_48 hw).symm)).other W6 (Or.inl (ne_i (by omega))))
      have fx9 := (((S1.2.2.2.1.keep K2 (ninS (ne_i (by omega)) nin0)).other W3 (Or.inr (sn_51 hw).symm)).other W6 (Or.inl (ne_i (by omega))))
      have fx10 := (((S1.2.2.2.2.1.keep K2 (ninS (ne_i (by omega)) nin0)).other W3 (Or.inr (sn_52 hw).symm)).other W6 (Or.inl (ne_i (by omega))))
      have fx11 := (((S1.2.2.2.2.2.1.keep K2 (ninS (ne_i (by omega)) nin0)).other W3 (Or.inr (sn_49 hw).symm)).other W6 (Or.inl (ne_i (by omega))))
      have fx12 := (((S1.2.2.2.2.2.2.1.keep K2 (ninS (ne_i (by omega)) nin0)).other W3 (Or.inr (sn_50 hw).symm)).other W6 (Or.inl (ne_i (by omega))))
      have fx13 := (((S1.2.2.2.2.2.2.2.1.keep K2 (ninS (ne_i (by omega)) nin0)).other W3 (Or.inr (sn_53 hw).symm)).other W6 (Or.inl (ne_i (by omega))))
      have fx14 := (((S1.2.2.2.2.2.2.2.2.1.keep K2 (ninS (ne_i (by omega)) nin0)).other W3 (Or.inr (sn_64 hw).symm)).other W6 (Or.inl (ne_i (by omega))))
      have fx15 := (((S1.2.2.2.2.2.2.2.2.2.1.keep K2 (ninS (ne_i (by omega)) nin0)).other W3 (Or.inr (sn_45 hw).symm)).other W6 (Or.inl (ne_i (by omega))))
      have fx16 := (((S1.2.2.2.2.2.2.2.2.2.2.2.2.1.keep K2 (ninS (ne_i (by omega)) nin0)).other W3 (Or.inr (sn_65 hw).symm)).other W6 (Or.inl (ne_i (by omega))))
      have fx17 := (((S1.2.2.2.2.2.2.2.2.2.2.2.2.2.1.keep K2 (ninS (ne_i (by omega)) nin0)).other W3 (ne_i (by omega))).other W6 (ne_i (by omega)))
      have fx18 := (((S1.2.2.2.2.2.2.2.2.2.2.2.2.2.2.2.1.keep K2 (ninS (ne_i (by omega)) nin0)).other W3 (ne_i (by omega))).other W6 (ne_i (by omega)))
      have fx19 := (((S1.2.2.2.2.2.2.2.2.2.2.2.2.2.2.2.2.1.keep K2 (ninS (ne_i (by omega)) nin0)).other W3 (ne_i (by omega))).other W6 (ne_i (by omega)))
      have fx20 := (((S1.2.2.2.2.2.2.2.2.2.2.2.2.2.2.2.2.2.1.keep K2 (ninS (ne_i (by omega)) nin0)).other W3 (ne_i (by omega))).other W6 (ne_i (by omega)))
      have fx21 := (((S1.2.2.2.2.2.2.2.2.2.2.2.2.2.2.2.2.2.2.1.keep K2 (ninS (ne_i (by omega)) nin0)).other W3 (ne_i (by omega))).other W6 (ne_i (by omega)))
      have fx22 := (((S1.2.2.2.2.2.2.2.2.2.2.2.2.2.2.2.2.2.2.2.1.keep K2 (ninS (ne_i (by omega)) nin0)).other W3 (ne_i (by omega))).other W6 (ne_i (by omega)))
      have fx23 := (((S1.2.2.2.2.2.2.2.2.2.2.2.2.2.2.2.2.2.2.2.2.1.keep K2 (ninS (ne_i (by omega)) nin0)).other W3 (ne_i (by omega))).other W6 (ne_i (by omega)))
      have fx24 := (((S1.2.2.2.2.2.2.2.2.2.2.2.2.2.2.2.2.2.2.2.2.2.1.keep K2 (ninS (ne_i (by omega)) nin0)).other W3 (ne_i (by omega))).other W6 (ne_i (by omega)))
      exact go_retI C d14_230 (by decide) (by decide) ⟨_, _, _, _, rfl, Or.inr ⟨rfl, fun z => hr ⟨(ent_hi g).trans (show g = hs by rw [← hhs, ← hg, z.1, z.2]), (z.1).symm, (z.2).symm⟩, rfl⟩, ⟨(((S1.1.keep K2).wr W3).wr W6), fx7, fx8, fx9, fx10, fx11, fx12, fx13, fx14, fx15, (F3.other W6 (Or.inl (ne_i (by omega)))), (fx4.other W6 (Or.inl (ne_i (by omega)))), fx16, fx17, A6, fx18, fx19, fx20, fx21, fx22, fx23, fx24, S1.2.2.2.2.2.2.2.2.2.2.2.2.2.2.2.2.2.2.2.2.2.2⟩, ((A2.other W3 (ne_i (by omega))).other W6 (ne_i (by omega))), (((((Keep.refl _ [b, tb, pk, pg]).trans Kp1 (allS (Or.inl (by simp)) all0)).trans K2 (allS (Or.inl (by simp)) all0)).wr W3 (Or.inl (by simp))).wr W6 (Or.inl (by simp)))⟩
  · refine go_callP C (pc' := 11) (y' := (⟨"com/example/invariant/invariant/check/ConfigurationStore", "slot", "(I)I"⟩ : MethodName)) (wd_91 hw) (wd_92 hw) (wd_93 hw) (wd_12 hw) (slotA2_met l Z a0 hw _ _ O1 hs T.1 ⟨S1.1, S1.2.1, S1.2.2.1, S1.2.2.2.1, S1.2.2.2.2.1, S1.2.2.2.2.2.1, S1.2.2.2.2.2.2.1, S1.2.2.2.2.2.2.2.1, S1.2.2.2.2.2.2.2.2.1, S1.2.2.2.2.2.2.2.2.2.1, S1.2.2.2.2.2.2.2.2.2.2.1, S1.2.2.2.2.2.2.2.2.2.2.2.1, S1.2.2.2.2.2.2.2.2.2.2.2.2.1, S1.2.2.2.2.2.2.2.2.2.2.2.2.2.1, S1.2.2.2.2.2.2.2.2.2.2.2.2.2.2.1, S1.2.2.2.2.2.2.2.2.2.2.2.2.2.2.2.1, S1.2.2.2.2.2.2.2.2.2.2.2.2.2.2.2.2.1, S1.2.2.2.2.2.2.2.2.2.2.2.2.2.2.2.2.2.1, S1.2.2.2.2.2.2.2.2.2.2.2.2.2.2.2.2.2.2.1, S1.2.2.2.2.2.2.2.2.2.2.2.2.2.2.2.2.2.2.2.1, S1.2.2.2.2.2.2.2.2.2.2.2.2.2.2.2.2.2.2.2.2.1, S1.2.2.2.2.2.2.2.2.2.2.2.2.2.2.2.2.2.2.2.2.2.1, S1.2.2.2.2.2.2.2.2.2.2.2.2.2.2.2.2.2.2.2.2.2.2⟩ (T.2.1 _ (and127 _).2 hq)) (wd_94 hw) (wd_13 hw) (by decide) (by decide) (W := 0) (Nat.le_of_ble_eq_true rfl) (by decide) (by decide) (by decide) rfl S1.1 (argsL := [(.int hs)]) (rest := []) pd_0 rfl rfl rfl d14_8 rfl ?_
    rintro _ _ ⟨rfl, rfl⟩
    refine go_st (st' := [(.int (hs &&& (127 : Int32)))]) rfl ?_
    refine go_istore C (pc' := 13) d14_11 (Ls' := #[(.val (.ref b)), (.val (.ref cf)), (.val .null), (.val (.int hs)), (.val (.int (hs &&& (127 : Int32)))), .unset, .unset, .unset]) rfl rfl ?_
    refine go_aloadN C (pc' := 14) d14_13 rfl rfl rfl ?_
    refine gF C (pc' := 17) (wd_25 hw) S1.2.2.2.2.2.2.2.2.2.2.2.1 d14_14 rfl ?_
    refine go_iload C (pc' := 19) d14_17 rfl rfl ?_
    refine go_laget C (pc' := 20) S1.2.2.2.2.2.2.2.2.2.2.2.2.2.2.1 (and127 _).1 (i := _) rfl (T.2.1 _ (and127 _).2 hq) d14_19 rfl ?_
    refine go_lconst C (pc' := 21) d14_20 (z := (0 : Int64)) (by decide) rfl ?_
    refine go_lcmp C (pc' := 22) d14_21 rfl ?_
    refine go_st (st' := [(.int (0 : Int32))]) (by rw [show (lcmpW (0 : Int64) (0 : Int64)) = (0 : Int32) from by decide]) ?_
    refine go_ifYes C (pc' := 36) d14_22 (by decide) (by decide) (by decide) ?_
    refine go_aloadN C (pc' := 37) d14_36 rfl rfl rfl ?_
    refine go_iloadN C (pc' := 38) d14_37 rfl rfl ?_
    refine go_aloadN C (pc' := 39) d14_38 rfl rfl rfl ?_
    refine go_callP C (pc' := 42) (y' := (⟨"com/example/invariant/invariant/check/ConfigurationStore", "holder", "(ILjava/util/function/IntPredicate;)I"⟩ : MethodName)) (wd_95 hw) (wd_96 hw) (wd_97 hw) (wd_12 hw) (holder2_met l Z a0 hw _ _ O1 hs T.1 ⟨S1.1, S1.2.1, S1.2.2.1, S1.2.2.2.1, S1.2.2.2.2.1, S1.2.2.2.2.2.1, S1.2.2.2.2.2.2.1, S1.2.2.2.2.2.2.2.1, S1.2.2.2.2.2.2.2.2.1, S1.2.2.2.2.2.2.2.2.2.1, S1.2.2.2.2.2.2.2.2.2.2.1, S1.2.2.2.2.2.2.2.2.2.2.2.1, S1.2.2.2.2.2.2.2.2.2.2.2.2.1, S1.2.2.2.2.2.2.2.2.2.2.2.2.2.1, S1.2.2.2.2.2.2.2.2.2.2.2.2.2.2.1, S1.2.2.2.2.2.2.2.2.2.2.2.2.2.2.2.1, S1.2.2.2.2.2.2.2.2.2.2.2.2.2.2.2.2.1, S1.2.2.2.2.2.2.2.2.2.2.2.2.2.2.2.2.2.1, S1.2.2.2.2.2.2.2.2.2.2.2.2.2.2.2.2.2.2.1, S1.2.2.2.2.2.2.2.2.2.2.2.2.2.2.2.2.2.2.2.1, S1.2.2.2.2.2.2.2.2.2.2.2.2.2.2.2.2.2.2.2.2.1, S1.2.2.2.2.2.2.2.2.2.2.2.2.2.2.2.2.2.2.2.2.2.1, S1.2.2.2.2.2.2.2.2.2.2.2.2.2.2.2.2.2.2.2.2.2.2⟩) (wd_98 hw) (wd_13 hw) (by decide) (by decide) (W := 0) (Nat.le_of_ble_eq_true rfl) (by decide) (by decide) (by decide) rfl S1.1 (argsL := [(.int hs), .null]) (rest := []) pd_6 rfl rfl rfl d14_39 rfl ?_
    rintro _ _ ⟨rfl, rfl⟩
    refine go_st (st' := [(.int (-1 : Int32))]) rfl ?_
    refine go_istore C (pc' := 44) d14_42 (Ls' := #[(.val (.ref b)), (.val (.ref cf)), (.val .null), (.val (.int hs)), (.val (.int (hs &&& (127 : Int32)))), (.val (.int (-1 : Int32))), .unset, .unset]) rfl rfl ?_
    refine go_iload C (pc' := 46) d14_44 rfl rfl ?_
    refine go_ifYes C (pc' := 52) d14_46 (by decide) (by decide) (by decide) ?_
    refine go_aloadN C (pc' := 53) d14_52 rfl rfl rfl ?_
    refine gF C (pc' := 56) (wd_99 hw) S1.2.2.2.2.2.2.2.2.2.2.1 d14_53 rfl ?_
    refine go_aloadN C (pc' := 57) d14_56 rfl rfl rfl ?_
    refine go_callV C (pc' := 60) (y' := (⟨"com/example/invariant/invariant/check/ConfigurationStore", "capacity", "()I"⟩ : MethodName)) (wd_101 hw) (wd_102 hw) (wd_104 hw) (wd_103 hw) (cap_met l Z a0 hw _ _ O1 b) (wd_105 hw) (wd_13 hw) (by decide) (by decide) (W := 1) (Nat.le_of_ble_eq_true rfl) (by decide) (by decide) (by decide) rfl S1.1 (argsL := []) (rest := [(.int (1 : Int32))]) pd_7 rfl rfl rfl d14_57 rfl ?_
    rintro _ _ ⟨rfl, rfl⟩
    refine go_st (st' := [(.int (536870912 : Int32)), (.int (1 : Int32))]) rfl ?_
    refine go_icmpYes C (pc' := 80) d14_60 (by decide) (by decide) (by decide) ?_
    refine go_aloadN C (pc' := 81) d14_80 rfl rfl rfl ?_
    refine gF C (pc' := 84) (wd_99 hw) S1.2.2.2.2.2.2.2.2.2.2.1 d14_81 rfl ?_
    refine go_aloadN C (pc' := 85) d14_84 rfl rfl rfl ?_
    refine gF C (pc' := 88) (wd_71 hw) S1.2.2.2.2.2.2.2.2.1 d14_85 rfl ?_
    refine go_iushr C (pc' := 89) d14_88 rfl ?_
    refine go_st (st' := [(.int (0 : Int32))]) (by rw [show (((1 : Int32)).toUInt32 >>> ((19 : Int32) &&& 31).toUInt32).toInt32 = (0 : Int32) from by decide]) ?_
    refine go_istore C (pc' := 91) d14_89 (Ls' := #[(.val (.ref b)), (.val (.ref cf)), (.val .null), (.val (.int hs)), (.val (.int (hs &&& (127 : Int32)))), (.val (.int (-1 : Int32))), (.val (.int (0 : Int32))), .unset]) rfl rfl ?_
    refine go_aloadN C (pc' := 92) d14_91 rfl rfl rfl ?_
    refine gF C (pc' := 95) (wd_99 hw) S1.2.2.2.2.2.2.2.2.2.2.1 d14_92 rfl ?_
    refine go_iconst C (pc' := 96) d14_95 (z := (1 : Int32)) (by decide) rfl ?_
    refine go_aloadN C (pc' := 97) d14_96 rfl rfl rfl ?_
    refine gF C (pc' := 100) (wd_71 hw) S1.2.2.2.2.2.2.2.2.1 d14_97 rfl ?_
    refine go_ishl C (pc' := 101) d14_100 rfl ?_
    refine go_st (st' := [(.int (524288 : Int32)), (.int (1 : Int32))]) (by rw [show ((1 : Int32) <<< ((19 : Int32) &&& 31)) = (524288 : Int32) from by decide]) ?_
    refine go_iconst C (pc' := 102) d14_101 (z := (1 : Int32)) (by decide) rfl ?_
    refine go_isub C (pc' := 103) d14_102 rfl ?_
    refine go_st (st' := [(.int (524287 : Int32)), (.int (1 : Int32))]) (by rw [show ((524288 : Int32) - (1 : Int32)) = (524287 : Int32) from by decide]) ?_
    refine go_iand C (pc' := 104) d14_103 rfl ?_
    refine go_st (st' := [(.int (1 : Int32))]) (by rw [show ((1 : Int32) &&& (524287 : Int32)) = (1 : Int32) from by decide]) ?_
    refine go_aloadN C (pc' := 105) d14_104 rfl rfl rfl ?_
    refine gF C (pc' := 108) (wd_64 hw) S1.2.2.2.2.1 d14_105 rfl ?_
    refine go_imul C (pc' := 109) d14_108 rfl ?_
    refine go_st (st' := [(.int (2 : Int32))]) (by rw [show ((1 : Int32) * (2 : Int32)) = (2 : Int32) from by decide]) ?_
    refine go_istore C (pc' := 111) d14_109 (Ls' := #[(.val (.ref b)), (.val (.ref cf)), (.val .null), (.val (.int hs)), (.val (.int (hs &&& (127 : Int32)))), (.val (.int (-1 : Int32))), (.val (.int (0 : Int32))), (.val (.int (2 : Int32)))]) rfl rfl ?_
    refine go_iload C (pc' := 113) d14_111 rfl rfl ?_
    refine go_aloadN C (pc' := 114) d14_113 rfl rfl rfl ?_
    refine gF C (pc' := 117) (wd_22 hw) S1.2.2.2.2.2.2.2.2.2.1 d14_114 rfl ?_
    refine go_alen C (pc' := 118) S1.2.2.2.2.2.2.2.2.2.2.2.2.2.1 (z := (1 : Int32)) rfl d14_117 rfl ?_
    refine go_icmpNo C (pc' := 121) d14_118 (by decide) rfl ?_
    refine go_aloadN C (pc' := 122) d14_121 rfl rfl rfl ?_
    refine gF C (pc' := 125) (wd_22 hw) S1.2.2.2.2.2.2.2.2.2.1 d14_122 rfl ?_
    refine go_iload C (pc' := 127) d14_125 rfl rfl ?_
    refine go_raget C (pc' := 128) S1.2.2.2.2.2.2.2.2.2.2.2.2.2.1 rfl (by decide) (i := 0) (by decide) rfl d14_127 rfl ?_
    refine go_ifnullNo C (pc' := 131) d14_128 rfl ?_
    refine go_aloadN C (pc' := 132) d14_131 rfl rfl rfl ?_
    refine gF C (pc' := 135) (wd_22 hw) S1.2.2.2.2.2.2.2.2.2.1 d14_132 rfl ?_
    refine go_iload C (pc' := 137) d14_135 rfl rfl ?_
    refine go_raget C (pc' := 138) S1.2.2.2.2.2.2.2.2.2.2.2.2.2.1 rfl (by decide) (i := 0) (by decide) rfl d14_137 rfl ?_
    refine go_alen C (pc' := 139) (Apg.keep Kp1 (ninS (ne_i (by omega)) nin0)) (z := (128 : Int32)) (by rfl) d14_138 rfl ?_
    refine go_iload C (pc' := 141) d14_139 rfl rfl ?_
    refine go_icmpYes C (pc' := 152) d14_141 (by decide) (by decide) (by decide) ?_
    refine go_aloadN C (pc' := 153) d14_152 rfl rfl rfl ?_
    refine gF C (pc' := 156) (wd_73 hw) S1.2.2.2.2.2.2.2.2.2.2.2.2.1 d14_153 rfl ?_
    refine go_iconst C (pc' := 157) d14_156 (z := (0 : Int32)) (by decide) rfl ?_
    refine go_aloadN C (pc' := 158) d14_157 rfl rfl rfl ?_
    refine gF C (pc' := 161) (wd_22 hw) S1.2.2.2.2.2.2.2.2.2.1 d14_158 rfl ?_
    refine go_iload C (pc' := 163) d14_161 rfl rfl ?_
    refine go_raget C (pc' := 164) S1.2.2.2.2.2.2.2.2.2.2.2.2.2.1 rfl (by decide) (i := 0) (by decide) rfl d14_163 rfl ?_
    refine go_iload C (pc' := 166) d14_164 rfl rfl ?_
    refine go_aloadN C (pc' := 167) d14_166 rfl rfl rfl ?_
    refine gF C (pc' := 170) (wd_64 hw) S1.2.2.2.2.1 d14_167 rfl ?_
    refine go_acopy C (pc' := 173) (wd_113 hw) (wd_61 hw) (wd_59 hw) (wd_60 hw) S1.2.2.2.2.2.2.2.2.2.2.2.2.2.2.2.2.2.2.2.2.2.1 (Apg.keep Kp1 (ninS (ne_i (by omega)) nin0)) rfl (by simp [fits]) (by simp [fits]) (by simp) (by simp) (by decide) (i := 0) (by decide) (by decide) (j := 2) (by decide) (by decide) (q := 2) (by decide) (by simp) (by simp) (vs' := (.long e0 :: .long e1 :: .long q0 :: .long q1 :: List.replicate 124 (.long (0 : Int64)))) rfl rfl d14_170 rfl (by omega) (by decide) (W := 0) (Nat.le_of_ble_eq_true rfl) (by decide) ?_
    intro h25 K25 A25
    refine go_old fun O25 => ?_
    refine go_aloadN C (pc' := 174) d14_173 rfl rfl rfl ?_
    refine go_dup C (pc' := 175) d14_174 rfl rfl ?_
    refine gF C (pc' := 178) (wd_99 hw) (S1.2.2.2.2.2.2.2.2.2.2.1.keep K25 (ninS (ne_i (by omega)) nin0)) d14_175 rfl ?_
    refine go_iconst C (pc' := 179) d14_178 (z := (1 : Int32)) (by decide) rfl ?_
    refine go_iadd C (pc' := 180) d14_179 rfl ?_
    refine go_st (st' := [(.int (2 : Int32)), (.ref b)]) (by rw [show ((1 : Int32) + (1 : Int32)) = (2 : Int32) from by decide]) ?_
    refine go_putF C (pc' := 183) (host := "") (Or.inl (wd_99 hw)) Via.refl (S1.2.2.2.2.2.2.2.2.2.2.1.keep K25 (ninS (ne_i (by omega)) nin0)) (S1.1.keep K25) (Or.inl (wd_100 hw)) (wd_12 hw) (ty := .int) (by decide) rfl rfl d14_180 rfl (by omega) ?_
    intro h26 W26 F26
    refine go_old fun O26 => ?_
    refine go_aloadN C (pc' := 184) d14_183 rfl rfl rfl ?_
    have fx27 := ((S1.2.2.2.2.2.2.2.2.2.2.2.1.keep K25 (ninS (ne_i (by omega)) nin0)).other W26 (Or.inr (sn_46 hw).symm))
    refine gF C (pc' := 187) (wd_25 hw) fx27 d14_184 rfl ?_
    refine go_iload C (pc' := 189) d14_187 rfl rfl ?_
    refine go_iloadN C (pc' := 190) d14_189 rfl rfl ?_
    refine go_i2l C (pc' := 191) d14_190 rfl ?_
    refine go_bipush C (pc' := 193) d14_191 (z := (32 : Int32)) (by decide) rfl ?_
    refine go_lshl C (pc' := 194) d14_193 rfl ?_
    refine go_aloadN C (pc' := 195) d14_194 rfl rfl rfl ?_
    refine gF C (pc' := 198) (wd_99 hw) F26 d14_195 rfl ?_
    refine go_i2l C (pc' := 199) d14_198 rfl ?_
    refine go_st (st' := [(.long (2 : Int64)), (.long ((hs).toInt64 <<< ((32 : Int32) &&& 0x3f).toInt64)), (.int (hs &&& (127 : Int32))), (.ref tb)]) (by rw [show ((2 : Int32)).toInt64 = (2 : Int64) from by decide]) ?_
    refine go_lor C (pc' := 200) d14_199 rfl ?_
    refine go_st (st' := [(.long (ent hs (2 : Int64))), (.int (hs &&& (127 : Int32))), (.ref tb)]) rfl ?_
    have fx28 := ((S1.2.2.2.2.2.2.2.2.2.2.2.2.2.2.1.keep K25 (ninS (ne_i (by omega)) nin0)).other W26 (ne_i (by omega)))
    refine go_laset C (pc' := 201) fx28 (and127 _).1 (i := _) rfl (by rw [T.1]; exact (and127 _).2) (vs' := (vt.set (hs &&& (127 : Int32)).toNatClampNeg (.long (ent hs (2 : Int64))))) rfl d14_200 rfl (by omega) ?_
    intro h29 W29 A29
    refine go_old fun O29 => ?_
    refine go_ldcLong C (pc' := 204) (wd_114 hw) d14_201 rfl ?_
    refine go_aloadN C (pc' := 205) d14_204 rfl rfl rfl ?_
    refine gF C (pc' := 208) (wd_99 hw) (F26.other W29 (Or.inl (ne_i (by omega)))) d14_205 rfl ?_
    refine go_i2l C (pc' := 209) d14_208 rfl ?_
    refine go_st (st' := [(.long (2 : Int64)), (.long (2 : Int64))]) (by rw [show ((2 : Int32)).toInt64 = (2 : Int64) from by decide]) ?_
    refine go_lmul C (pc' := 210) d14_209 rfl ?_
    refine go_st (st' := [(.long (4 : Int64))]) (by rw [show ((2 : Int64) * (2 : Int64)) = (4 : Int64) from by decide]) ?_
    refine go_aloadN C (pc' := 211) d14_210 rfl rfl rfl ?_
    refine gF C (pc' := 214) (wd_25 hw) (fx27.other W29 (Or.inl (ne_i (by omega)))) d14_211 rfl ?_
    refine go_alen C (pc' := 215) A29 (z := (128 : Int32)) (by rw [List.length_set, T.1]; rfl) d14_214 rfl ?_
    refine go_i2l C (pc' := 216) d14_215 rfl ?_
    refine go_st (st' := [(.long (128 : Int64)), (.long (4 : Int64))]) (by rw [show ((128 : Int32)).toInt64 = (128 : Int64) from by decide]) ?_
    refine go_lcmp C (pc' := 217) d14_216 rfl ?_
    refine go_st (st' := [(.int (-1 : Int32))]) (by rw [show (lcmpW (4 : Int64) (128 : Int64)) = (-1 : Int32) from by decide]) ?_
    refine go_ifYes C (pc' := 224) d14_217 (by decide) (by decide) (by decide) ?_
    refine go_aloadN C (pc' := 225) d14_224 rfl rfl rfl ?_
    refine gF C (pc' := 228) (wd_99 hw) (F26.other W29 (Or.inl (ne_i (by omega)))) d14_225 rfl ?_
    refine go_iconst C (pc' := 229) d14_228 (z := (1 : Int32)) (by decide) rfl ?_
    refine go_isub C (pc' := 230) d14_229 rfl ?_
    refine go_st (st' := [(.int (1 : Int32))]) (by rw [show ((2 : Int32) - (1 : Int32)) = (1 : Int32) from by decide]) ?_
    have fx30 := (((S1.2.1.keep K25 (ninS (ne_i (by omega)) nin0)).other W26 (Or.inr (sn_47 hw).symm)).other W29 (Or.inl (ne_i (by omega))))
    have fx31 := (((S1.2.2.1.keep K25 (ninS (ne_i (by omega)) nin0)).other W26 (Or.inr (sn_48 hw).symm)).other W29 (Or.inl (ne_i (by omega))))
    have fx32 := (((S1.2.2.2.1.keep K25 (ninS (ne_i (by omega)) nin0)).other W26 (Or.inr (sn_51 hw).symm)).other W29 (Or.inl (ne_i (by omega))))
    have fx33 := (((S1.2.2.2.2.1.keep K25 (ninS (ne_i (by omega)) nin0)).other W26 (Or.inr (sn_52 hw).symm)).other W29 (Or.inl (ne_i (by omega))))
    have fx34 := (((S1.2.2.2.2.2.1.keep K25 (ninS (ne_i (by omega)) nin0)).other W26 (Or.inr (sn_49 hw).symm)).other W29 (Or.inl (ne_i (by omega))))
    have fx35 := (((S1.2.2.2.2.2.2.1.keep K25 (ninS (ne_i (by omega)) nin0)).other W26 (Or.inr (sn_50 hw).symm)).other W29 (Or.inl (ne_i (by omega))))
    have fx36 := (((S1.2.2.2.2.2.2.2.1.keep K25 (ninS (ne_i (by omega)) nin0)).other W26 (Or.inr (sn_53 hw).symm)).other W29 (Or.inl (ne_i (by omega))))
    have fx37 := (((S1.2.2.2.2.2.2.2.2.1.keep K25 (ninS (ne_i (by omega)) nin0)).other W26 (Or.inr (sn_64 hw).symm)).other W29 (Or.inl (ne_i (by omega))))
    have fx38 := (((S1.2.2.2.2.2.2.2.2.2.1.keep K25 (ninS (ne_i (by omega)) nin0)).other W26 (Or.inr (sn_45 hw).symm)).other W29 (Or.inl (ne_i (by omega))))
    have fx39 := (((S1.2.2.2.2.2.2.2.2.2.2.2.2.1.keep K25 (ninS (ne_i (by omega)) nin0)).other W26 (Or.inr (sn_65 hw).symm)).other W29 (Or.inl (ne_i (by omega))))
    have fx40 := (((S1.2.2.2.2.2.2.2.2.2.2.2.2.2.1.keep K25 (ninS (ne_i (by omega)) nin0)).other W26 (ne_i (by omega))).other W29 (ne_i (by omega)))
    have fx41 := (((S1.2.2.2.2.2.2.2.2.2.2.2.2.2.2.2.1.keep K25 (ninS (ne_i (by omega)) nin0)).other W26 (ne_i (by omega))).other W29 (ne_i (by omega)))
    have fx42 := (((S1.2.2.2.2.2.2.2.2.2.2.2.2.2.2.2.2.1.keep K25 (ninS (ne_i (by omega)) nin0)).other W26 (ne_i (by omega))).other W29 (ne_i (by omega)))
    have fx43 := (((S1.2.2.2.2.2.2.2.2.2.2.2.2.2.2.2.2.2.1.keep K25 (ninS (ne_i (by omega)) nin0)).other W26 (ne_i (by omega))).other W29 (ne_i (by omega)))
    have fx44 := (((S1.2.2.2.2.2.2.2.2.2.2.2.2.2.2.2.2.2.2.1.keep K25 (ninS (ne_i (by omega)) nin0)).other W26 (ne_i (by omega))).other W29 (ne_i (by omega)))
    have fx45 := (((S1.2.2.2.2.2.2.2.2.2.2.2.2.2.2.2.2.2.2.2.1.keep K25 (ninS (ne_i (by omega)) nin0)).other W26 (ne_i (by omega))).other W29 (ne_i (by omega)))
    have fx46 := (((S1.2.2.2.2.2.2.2.2.2.2.2.2.2.2.2.2.2.2.2.2.1.keep K25 (ninS (ne_i (by omega)) nin0)).other W26 (ne_i (by omega))).other W29 (ne_i (by omega)))
    have fx47 := (((S1.2.2.2.2.2.2.2.2.2.2.2.2.2.2.2.2.2.2.2.2.2.1.keep K25 (ninS (ne_i (by omega)) nin0)).other W26 (ne_i (by omega))).other W29 (ne_i (by omega)))
    exact go_retI C d14_230 (by decide) (by decide) ⟨_, _, _, _, rfl, Or.inr ⟨rfl, fun z => hq (by rw [(show g = hs by rw [← hhs, ← hg, z.1, z.2])]), rfl⟩, ⟨(((S1.1.keep K25).wr W26).wr W29), fx30, fx31, fx32, fx33, fx34, fx35, fx36, fx37, fx38, (F26.other W29 (Or.inl (ne_i (by omega)))), (fx27.other W29 (Or.inl (ne_i (by omega)))), fx39, fx40, A29, fx41, fx42, fx43, fx44, fx45, fx46, fx47, S1.2.2.2.2.2.2.2.2.2.2.2.2.2.2.2.2.2.2.2.2.2.2⟩, ((A25.other W26 (ne_i (by omega))).other W29 (ne_i (by omega))), (((((Keep.refl _ [b, tb, pk, pg]).trans Kp1 (allS (Or.inl (by simp)) all0)).trans K25 (allS (Or.inl (by simp)) all0)).wr W26 (Or.inl (by simp))).wr W29 (Or.inl (by simp)))⟩
set_option maxRecDepth 65536 in
set_option maxHeartbeats 4000000 in
theorem add2_1_met (l : Launch) (Z : State) (a0 : Array Value) (hw : ∀ d ∈ tables_1, d.before a0 Z = true) (n0 : Nat) (h : Heap) (O : Old Z n0 h)  {b pgs tb lo hi sh mk fi km pk : Nat} {kpgs ktb klo khi ksh kmk kfi kkm kpk : ClassId} {l0 u0 l1 u1 l2 u2 l3 u3 s1 s2 : Int32} {m0 m1 m2 m3 KM0 KM1 : Int64} {vt : List Value} {hs g : Int32} {p0 q0 e0 p1 q1 e1 : Int64} {pg : Nat} {kpg : ClassId} (S : Sto Z h b pgs tb lo hi sh mk fi km pk kpgs ktb klo khi ksh kmk kfi kkm kpk (2 : Int32) (19 : Int32) (1 : Int32) [(.ref pg)] vt [(.int l0), (.int l1), (.int l2), (.int l3)] [(.int u0), (.int u1), (.int u2), (.int u3)] [(.int (0 : Int32)), (.int s1), (.int s2), (.int (0 : Int32))] [(.long m0), (.long m1), (.long m2), (.long m3)] [(.int (0 : Int32)), (.int (3 : Int32)), (.int (4 : Int32))] [(.long KM0), (.long KM1)] [(.long p0), (.long p1)]) (o : Ord n0 b pgs tb lo hi sh mk fi km pk) {cf : Nat} {kcf : ClassId} {c0 c1 c2 c3 : Int32} (Acf : Ar Z h cf .int kcf [(.int c0), (.int c1), (.int c2), (.int c3)]) (qcf : cf < b) (hl0 : ¬ c0 < l0) (hu0 : ¬ u0 < c0) (hl1 : ¬ c1 < l1) (hu1 : ¬ u1 < c1) (hl2 : ¬ c2 < l2) (hu2 : ¬ u2 < c2) (hl3 : ¬ c3 < l3) (hu3 : ¬ u3 < c3) (hP0 : ((((0 : Int64) ||| (pt c0 l0 (0 : Int32))) ||| (pt c1 l1 s1)) ||| (pt c2 l2 s2)) = q0) (hP1 : ((0 : Int64) ||| (pt c3 l3 (0 : Int32))) = q1) (hhs : (hfin (hst (hst (0 : Int64) q0 KM0) q1 KM1)) = hs) (T : T1 vt g) (hg : (hfin (hst (hst (0 : Int64) e0 KM0) e1 KM1)) = g) (qpg : pk < pg) (Apg : Ar Z h pg .long kpg (.long e0 :: .long e1 :: List.replicate 126 (.long (0 : Int64)))) :
    Met l Z n0 (⟨"com/example/invariant/invariant/check/ConfigurationStore", "add", "([I)I"⟩ : MethodName) prog_52_method_7_code 2 (some .int) [] ({ frames := 3, cells := 0, slots := 0, locals := 59 } : Room) #[(.ref b), (.ref cf)] h (fun v h' => ∃ (r : Int32) (sz' : Int32) (vt' vg : List Value), v = some (.int r) ∧ (r = 0 ∧ (q0 = e0 ∧ q1 = e1) ∧ vg = (.long e0 :: .long e1 :: List.replicate 126 (.long (0 : Int64))) ∨ r = 1 ∧ ¬ (q0 = e0 ∧ q1 = e1) ∧ vg = (.long e0 :: .long e1 :: .long q0 :: .long q1 :: List.replicate 124 (.long (0 : Int64)))) ∧ Sto Z h' b pgs tb lo hi sh mk fi km pk kpgs ktb klo khi ksh kmk kfi kkm kpk (2 : Int32) (19 : Int32) sz' [(.ref pg)] vt' [(.int l0), (.int l1), (.int l2), (.int l3)] [(.int u0), (.int u1), (.int u2), (.int u3)] [(.int (0 : Int32)), (.int s1), (.int s2), (.int (0 : Int32))] [(.long m0), (.long m1), (.long m2), (.long m3)] [(.int (0 : Int32)), (.int (3 : Int32)), (.int (4 : Int32))] [(.long KM0), (.long KM1)] [(.long q0), (.long q1)] ∧ Ar Z h' pg .long kpg vg ∧ Keep h h' [b, tb, pk, pg]) := by
  refine met_of (Ls := #[(.val (.ref b)), (.val (.ref cf))]) (by decide +kernel) (fun m => by first | (simp [entryFrame, mkF, argsToLocals, Value.category]; done) | rfl) O ?_
  intro p e s m below meth cd C
  refine go_aloadN C (pc' := 1) d15_0 rfl rfl rfl ?_
  refine go_aloadN C (pc' := 2) d15_1 rfl rfl rfl ?_
  refine go_aconstNull C (pc' := 3) d15_2 rfl ?_
  refine go_callV C (pc' := 6) (y' := (⟨"com/example/invariant/invariant/check/ConfigurationStore", "add", "([ILjava/util/function/IntPredicate;)I"⟩ : MethodName)) (wd_80 hw) (wd_81 hw) (wd_83 hw) (wd_82 hw) (add2_2_1_met l Z a0 hw _ _ O S o Acf qcf hl0 hu0 hl1 hu1 hl2 hu2 hl3 hu3 hP0 hP1 hhs T hg qpg Apg) (wd_84 hw) (wd_13 hw) (by decide) (by decide) (W := 0) (Nat.le_of_ble_eq_true rfl) (by decide) (by decide) (by decide) rfl S.1 (argsL := [(.ref cf), .null]) (rest := []) pd_9 rfl rfl rfl d15_3 rfl ?_
  rintro _ h1 ⟨r, sz', vt', vg, rfl, hq⟩
  refine go_st (st' := [(.int r)]) rfl ?_
  exact go_retI C d15_6 (by decide) (by decide) ⟨r, sz', vt', vg, rfl, hq⟩
theorem mm {a b l u : Int32} (hl : (if b < a then b else a) = l) (hu : (if a < b then b else a) = u) : ¬ u < l := by
  subst hl hu
  rw [Int32.lt_iff_toInt_lt]
  split <;> split <;> simp only [Int32.lt_iff_toInt_lt] at * <;> omega
theorem clm {x l u t c : Int32} (h : ¬ u < l) (ht : (if x < u then x else u) = t) (hc : (if l < t then t else l) = c) : ¬ c < l ∧ ¬ u < c := by
  subst ht hc
  simp only [Int32.lt_iff_toInt_lt] at *
  split <;> split <;> omega
theorem span {l u : Int32} (h : ¬ u < l) : (u.toInt64 - l.toInt64).toInt = u.toInt - l.toInt ∧ 0 ≤ u.toInt - l.toInt ∧ u.toInt - l.toInt < 4294967296 := by
  rw [Int32.lt_iff_toInt_lt] at h
  have a := c_lsub u.toInt64 l.toInt64
  have r := rng64 (u.toInt64 - l.toInt64)
  rw [c_i2l, c_i2l] at a
  have r1 := rng32 u
  have r2 := rng32 l
  omega
theorem span_hi {l u : Int32} (h : ¬ u < l) : ((u.toInt64 - l.toInt64).toUInt64 >>> ((32 : Int32) &&& 0x3f).toInt64.toUInt64).toInt64.toInt32 = 0 := by
  have s := span h
  have b := c_lushr (u.toInt64 - l.toInt64) 32 32 (by decide) (by decide)
  have P : ((2 ^ 32 : Nat) : Int) = 4294967296 := by decide
  rw [P] at b
  have c := c_l2i (((u.toInt64 - l.toInt64).toUInt64 >>> ((32 : Int32) &&& 0x3f).toInt64.toUInt64).toInt64)
  have r := rng32 (((u.toInt64 - l.toInt64).toUInt64 >>> ((32 : Int32) &&& 0x3f).toInt64.toUInt64).toInt64).toInt32
  have h0 : (0 : Int32).toInt = 0 := by decide
  refine Int32.toInt_inj.mp ?_
  omega
theorem bits_ok {l u w : Int32} (h : ¬ u < l) (hb : ((64 : Int32) - ((32 : Int32) + (nlI ((u).toInt64 - (l).toInt64).toInt32))) = w) : ∃ k : Nat, k ≤ 32 ∧ w.toInt = k ∧ u.toInt - l.toInt < 2 ^ k := by
  have s := span h
  obtain ⟨k, k1, k2, k3⟩ := nlI_spec ((u).toInt64 - (l).toInt64).toInt32
  have c := c_l2i ((u).toInt64 - (l).toInt64)
  refine ⟨k, k1, ?_, ?_⟩
  · subst hb
    have a := c_iadd 32 (nlI ((u).toInt64 - (l).toInt64).toInt32)
    have r := rng32 ((32 : Int32) + (nlI ((u).toInt64 - (l).toInt64).toInt32))
    have a2 := c_isub 64 ((32 : Int32) + (nlI ((u).toInt64 - (l).toInt64).toInt32))
    have r2 := rng32 ((64 : Int32) - ((32 : Int32) + (nlI ((u).toInt64 - (l).toInt64).toInt32)))
    have e1 : (32 : Int32).toInt = 32 := by decide
    have e2 : (64 : Int32).toInt = 64 := by decide
    omega
  · have e : ((u).toInt64 - (l).toInt64).toInt32.toInt % 4294967296 = u.toInt - l.toInt := by omega
    rw [e] at k3
    exact k3
theorem s_mod {s : Int32} {k : Nat} (hk : s.toInt = k) (h6 : k < 64) : s.toBitVec.toNat % 64 = k := by
  have z : s.toBitVec.toInt = k := hk
  rw [BitVec.toInt_eq_toNat_cond] at z
  have lt := s.toBitVec.isLt
  split at z <;> omega
theorem d_nat {c l : Int32} (hle : ¬ c < l) : (c.toInt64 - l.toInt64).toBitVec.toNat = (c.toInt - l.toInt).toNat := by
  have sp := span hle
  have z : (c.toInt64 - l.toInt64).toBitVec.toInt = c.toInt - l.toInt := sp.1
  rw [BitVec.toInt_eq_toNat_cond] at z
  have lt := (c.toInt64 - l.toInt64).toBitVec.isLt
  split at z <;> omega
theorem pt_bit {c l s : Int32} {k : Nat} (hk : s.toInt = k) (h6 : k < 64) (hle : ¬ c < l) (j : Nat) (hj : j < 64) : (pt c l s).toBitVec.getLsbD j = (decide (k ≤ j) && ((c.toInt - l.toInt).toNat).testBit (j - k)) := by
  have q := s_mod hk h6
  show ((c.toInt64 - l.toInt64).toBitVec <<< ((s &&& 0x3f).toInt64.toBitVec.smod 64)).getLsbD j = _
  rw [BitVec.shiftLeft_eq', (sm64 s k q).1, smod64 k (sm64 s k q).2, BitVec.getLsbD_shiftLeft, BitVec.getLsbD, d_nat hle]
  by_cases x : j < k
  · simp [x, Nat.not_le.mpr x]
  · simp [x, hj, Nat.not_lt.mp x]
theorem mask_nat {w : Int32} {m : Int64} {kw : Nat} (hw : w.toInt = kw) (hw2 : kw ≤ 32) (hm : (((1 : Int64) <<< (w &&& 0x3f).toInt64) - (1 : Int64)) = m) : m.toBitVec.toNat = 2 ^ kw - 1 := by
  subst hm
  have a := c_lshl 1 w kw (s_mod hw (by omega))
  have h1 : (1 : Int64).toInt = 1 := by decide
  rw [h1, Int.one_mul] at a
  have P1 : (2 : Nat) ^ kw ≤ 2 ^ 32 := Nat.pow_le_pow_right (by decide) hw2
  have P0 : 0 < (2 : Nat) ^ kw := Nat.pow_pos (by decide)
  generalize hp : (2 : Nat) ^ kw = P at *
  have r := rng64 ((1 : Int64) <<< (w &&& 0x3f).toInt64)
  have b := c_lsub ((1 : Int64) <<< (w &&& 0x3f).toInt64) 1
  have r2 := rng64 (((1 : Int64) <<< (w &&& 0x3f).toInt64) - 1)
  have z : (((1 : Int64) <<< (w &&& 0x3f).toInt64) - 1).toBitVec.toInt = P - 1 := by
    show (((1 : Int64) <<< (w &&& 0x3f).toInt64) - 1).toInt = _
    omega
  rw [BitVec.toInt_eq_toNat_cond] at z
  have lt := (((1 : Int64) <<< (w &&& 0x3f).toInt64) - 1).toBitVec.isLt
  split at z <;> omega
theorem un_ok {part : Int64} {s l c w : Int32} {m : Int64} {k kw : Nat} (hk : s.toInt = k) (h6 : k < 64) (hw : w.toInt = kw) (hw2 : kw ≤ 32) (hm : (((1 : Int64) <<< (w &&& 0x3f).toInt64) - (1 : Int64)) = m) (hle : ¬ c < l) (hD : (c.toInt - l.toInt).toNat < 2 ^ kw) (hb : ∀ j, j < kw → part.toBitVec.getLsbD (k + j) = ((c.toInt - l.toInt).toNat).testBit j) : un part s m l = c := by
  have M := mask_nat hw hw2 hm
  have q := s_mod hk h6
  have X : (((part.toUInt64 >>> (s &&& 0x3f).toInt64.toUInt64).toInt64 &&& m).toBitVec).toNat = (c.toInt - l.toInt).toNat := by
    show ((part.toBitVec >>> ((s &&& 0x3f).toInt64.toBitVec % 64)) &&& m.toBitVec).toNat = _
    rw [BitVec.toNat_and, M, Nat.and_two_pow_sub_one_eq_mod, BitVec.ushiftRight_eq', BitVec.toNat_ushiftRight, BitVec.toNat_umod, (sm64 s k q).1, BitVec.toNat_ofNat]
    have e : k % 2 ^ 64 % (64 : BitVec 64).toNat = k := by show k % 2 ^ 64 % 64 = k; omega
    rw [e]
    refine Nat.eq_of_testBit_eq fun j => ?_
    rw [Nat.testBit_mod_two_pow, Nat.testBit_shiftRight]
    by_cases x : j < kw
    · simp only [x, decide_true, Bool.true_and]
      exact hb j x
    · simp only [x, decide_false, Bool.false_and]
      exact (Nat.testBit_lt_two_pow (Nat.lt_of_lt_of_le hD (Nat.pow_le_pow_right (by decide) (Nat.not_lt.mp x)))).symm
  have sp := span hle
  have X2 : ((part.toUInt64 >>> (s &&& 0x3f).toInt64.toUInt64).toInt64 &&& m).toInt = c.toInt - l.toInt := by
    show ((part.toUInt64 >>> (s &&& 0x3f).toInt64.toUInt64).toInt64 &&& m).toBitVec.toInt = _
    rw [BitVec.toInt_eq_toNat_cond, X]
    split <;> omega
  have a := c_ladd ((part.toUInt64 >>> (s &&& 0x3f).toInt64.toUInt64).toInt64 &&& m) l.toInt64
  rw [X2, c_i2l] at a
  have b := c_l2i (((part.toUInt64 >>> (s &&& 0x3f).toInt64.toUInt64).toInt64 &&& m) + l.toInt64)
  have r := rng32 c
  have r2 := rng32 (((part.toUInt64 >>> (s &&& 0x3f).toInt64.toUInt64).toInt64 &&& m) + l.toInt64).toInt32
  refine Int32.toInt_inj.mp ?_
  show (((part.toUInt64 >>> (s &&& 0x3f).toInt64.toUInt64).toInt64 &&& m) + l.toInt64).toInt32.toInt = _
  omega
theorem D_zero {c l : Int32} (hle : ¬ c < l) (hD : (c.toInt - l.toInt).toNat < 2 ^ 0) : c = l := by
  rw [Int32.lt_iff_toInt_lt] at hle
  refine Int32.toInt_inj.mp ?_
  have : (2 : Nat) ^ 0 = 1 := rfl
  omega
theorem pt_bit' {c l s : Int32} {k kw : Nat} (hk : s.toInt = k) (hs : k + kw ≤ 64) (hle : ¬ c < l) (hD : (c.toInt - l.toInt).toNat < 2 ^ kw) (j : Nat) (hj : j < 64) : (pt c l s).toBitVec.getLsbD j = (decide (k ≤ j) && ((c.toInt - l.toInt).toNat).testBit (j - k)) := by
  by_cases h6 : k < 64
  · exact pt_bit hk h6 hle j hj
  · have hz : kw = 0 := by omega
    subst hz
    have e := D_zero hle hD
    subst e
    have z : (c.toInt - c.toInt).toNat = 0 := by omega
    have p : pt c c s = 0 := by
      show (c.toInt64 - c.toInt64) <<< (s &&& 0x3f).toInt64 = 0
      rw [Int64.sub_self, Int64.zero_shiftLeft]
    rw [p, z, Nat.zero_testBit, Bool.and_false]
    exact BitVec.getLsbD_zero
theorem un_ok' {part : Int64} {s l c w : Int32} {m : Int64} {k kw : Nat} (hk : s.toInt = k) (hs : k + kw ≤ 64) (hw : w.toInt = kw) (hw2 : kw ≤ 32) (hm : (((1 : Int64) <<< (w &&& 0x3f).toInt64) - (1 : Int64)) = m) (hle : ¬ c < l) (hD : (c.toInt - l.toInt).toNat < 2 ^ kw) (hb : ∀ j, j < kw → part.toBitVec.getLsbD (k + j) = ((c.toInt - l.toInt).toNat).testBit j) : un part s m l = c := by
  by_cases h6 : k < 64
  · exact un_ok hk h6 hw hw2 hm hle hD hb
  · have hz : kw = 0 := by omega
    subst hz
    have e := D_zero hle hD
    subst e
    have M := mask_nat hw hw2 hm
    have m0 : m = 0 := by
      refine Int64.toBitVec_inj.mp (BitVec.eq_of_toNat_eq ?_)
      rw [M]; rfl
    subst m0
    show ((((part.toUInt64 >>> (s &&& 0x3f).toInt64.toUInt64).toInt64 &&& 0) + c.toInt64).toInt32) = c
    rw [Int64.and_zero, Int64.zero_add]
    exact Int32.toInt32_toInt64 c
theorem off_lo {k k' kw' j D : Nat} (h : k' + kw' ≤ k) (hD : D < 2 ^ kw') : (decide (k' ≤ k + j) && D.testBit (k + j - k')) = false := by
  rw [Nat.testBit_lt_two_pow (Nat.lt_of_lt_of_le hD (Nat.pow_le_pow_right (by decide) (by omega))), Bool.and_false]
theorem off_hi {k kw k' j D : Nat} (h : k + kw ≤ k') (hj : j < kw) : (decide (k' ≤ k + j) && D.testBit (k + j - k')) = false := by
  rw [decide_eq_false (by omega), Bool.false_and]
theorem off_self {k j D : Nat} : (decide (k ≤ k + j) && D.testBit (k + j - k)) = D.testBit j := by
  rw [decide_eq_true (by omega), Bool.true_and, Nat.add_sub_cancel_left]
theorem or_bit (a b : Int64) (j : Nat) : (a ||| b).toBitVec.getLsbD j = (a.toBitVec.getLsbD j || b.toBitVec.getLsbD j) := BitVec.getLsbD_or
theorem zero_bit (j : Nat) : (0 : Int64).toBitVec.getLsbD j = false := BitVec.getLsbD_zero
theorem word1 {c0 l0 s0 w0 : Int32} {m0 : Int64} {k0 v0 : Nat} (hk0 : s0.toInt = k0) (hw0 : w0.toInt = v0) (hv0 : v0 ≤ 32) (hm0 : (((1 : Int64) <<< (w0 &&& 0x3f).toInt64) - (1 : Int64)) = m0) (hl0 : ¬ c0 < l0) (hD0 : (c0.toInt - l0.toInt).toNat < 2 ^ v0) (hs0 : k0 + v0 ≤ 64) : un ((0 : Int64) ||| (pt c0 l0 s0)) s0 m0 l0 = c0 := by
  exact un_ok' hk0 (by omega) hw0 hv0 hm0 hl0 hD0 fun j hj => by rw [or_bit, zero_bit, pt_bit' hk0 (by omega) hl0 hD0 _ (by omega), off_self]; simp
theorem word2 {c0 l0 s0 w0 c1 l1 s1 w1 : Int32} {m0 m1 : Int64} {k0 v0 k1 v1 : Nat} (hk0 : s0.toInt = k0) (hw0 : w0.toInt = v0) (hv0 : v0 ≤ 32) (hm0 : (((1 : Int64) <<< (w0 &&& 0x3f).toInt64) - (1 : Int64)) = m0) (hl0 : ¬ c0 < l0) (hD0 : (c0.toInt - l0.toInt).toNat < 2 ^ v0) (hk1 : s1.toInt = k1) (hw1 : w1.toInt = v1) (hv1 : v1 ≤ 32) (hm1 : (((1 : Int64) <<< (w1 &&& 0x3f).toInt64) - (1 : Int64)) = m1) (hl1 : ¬ c1 < l1) (hD1 : (c1.toInt - l1.toInt).toNat < 2 ^ v1) (hs0 : k0 + v0 = k1) (hs1 : k1 + v1 ≤ 64) : un (((0 : Int64) ||| (pt c0 l0 s0)) ||| (pt c1 l1 s1)) s0 m0 l0 = c0 ∧ un (((0 : Int64) ||| (pt c0 l0 s0)) ||| (pt c1 l1 s1)) s1 m1 l1 = c1 := by
  exact ⟨un_ok' hk0 (by omega) hw0 hv0 hm0 hl0 hD0 fun j hj => by rw [or_bit, or_bit, zero_bit, pt_bit' hk0 (by omega) hl0 hD0 _ (by omega), pt_bit' hk1 (by omega) hl1 hD1 _ (by omega), off_self, off_hi (D := (c1.toInt - l1.toInt).toNat) (k' := k1) (kw := v0) (by omega) hj]; simp, un_ok' hk1 (by omega) hw1 hv1 hm1 hl1 hD1 fun j hj => by rw [or_bit, or_bit, zero_bit, pt_bit' hk0 (by omega) hl0 hD0 _ (by omega), pt_bit' hk1 (by omega) hl1 hD1 _ (by omega), off_lo (by omega) hD0, off_self]; simp⟩
theorem word3 {c0 l0 s0 w0 c1 l1 s1 w1 c2 l2 s2 w2 : Int32} {m0 m1 m2 : Int64} {k0 v0 k1 v1 k2 v2 : Nat} (hk0 : s0.toInt = k0) (hw0 : w0.toInt = v0) (hv0 : v0 ≤ 32) (hm0 : (((1 : Int64) <<< (w0 &&& 0x3f).toInt64) - (1 : Int64)) = m0) (hl0 : ¬ c0 < l0) (hD0 : (c0.toInt - l0.toInt).toNat < 2 ^ v0) (hk1 : s1.toInt = k1) (hw1 : w1.toInt = v1) (hv1 : v1 ≤ 32) (hm1 : (((1 : Int64) <<< (w1 &&& 0x3f).toInt64) - (1 : Int64)) = m1) (hl1 : ¬ c1 < l1) (hD1 : (c1.toInt - l1.toInt).toNat < 2 ^ v1) (hk2 : s2.toInt = k2) (hw2 : w2.toInt = v2) (hv2 : v2 ≤ 32) (hm2 : (((1 : Int64) <<< (w2 &&& 0x3f).toInt64) - (1 : Int64)) = m2) (hl2 : ¬ c2 < l2) (hD2 : (c2.toInt - l2.toInt).toNat < 2 ^ v2) (hs0 : k0 + v0 = k1) (hs1 : k1 + v1 = k2) (hs2 : k2 + v2 ≤ 64) : un ((((0 : Int64) ||| (pt c0 l0 s0)) ||| (pt c1 l1 s1)) ||| (pt c2 l2 s2)) s0 m0 l0 = c0 ∧ un ((((0 : Int64) ||| (pt c0 l0 s0)) ||| (pt c1 l1 s1)) ||| (pt c2 l2 s2)) s1 m1 l1 = c1 ∧ un ((((0 : Int64) ||| (pt c0 l0 s0)) ||| (pt c1 l1 s1)) ||| (pt c2 l2 s2)) s2 m2 l2 = c2 := by
  exact ⟨un_ok' hk0 (by omega) hw0 hv0 hm0 hl0 hD0 fun j hj => by rw [or_bit, or_bit, or_bit, zero_bit, pt_bit' hk0 (by omega) hl0 hD0 _ (by omega), pt_bit' hk1 (by omega) hl1 hD1 _ (by omega), pt_bit' hk2 (by omega) hl2 hD2 _ (by omega), off_self, off_hi (D := (c1.toInt - l1.toInt).toNat) (k' := k1) (kw := v0) (by omega) hj, off_hi (D := (c2.toInt - l2.toInt).toNat) (k' := k2) (kw := v0) (by omega) hj]; simp, un_ok' hk1 (by omega) hw1 hv1 hm1 hl1 hD1 fun j hj => by rw [or_bit, or_bit, or_bit, zero_bit, pt_bit' hk0 (by omega) hl0 hD0 _ (by omega), pt_bit' hk1 (by omega) hl1 hD1 _ (by omega), pt_bit' hk2 (by omega) hl2 hD2 _ (by omega), off_lo (by omega) hD0, off_self, off_hi (D := (c2.toInt - l2.toInt).toNat) (k' := k2) (kw := v1) (by omega) hj]; simp, un_ok' hk2 (by omega) hw2 hv2 hm2 hl2 hD2 fun j hj => by rw [or_bit, or_bit, or_bit, zero_bit, pt_bit' hk0 (by omega) hl0 hD0 _ (by omega), pt_bit' hk1 (by omega) hl1 hD1 _ (by omega), pt_bit' hk2 (by omega) hl2 hD2 _ (by omega), off_lo (by omega) hD0, off_lo (by omega) hD1, off_self]; simp⟩
theorem word4 {c0 l0 s0 w0 c1 l1 s1 w1 c2 l2 s2 w2 c3 l3 s3 w3 : Int32} {m0 m1 m2 m3 : Int64} {k0 v0 k1 v1 k2 v2 k3 v3 : Nat} (hk0 : s0.toInt = k0) (hw0 : w0.toInt = v0) (hv0 : v0 ≤ 32) (hm0 : (((1 : Int64) <<< (w0 &&& 0x3f).toInt64) - (1 : Int64)) = m0) (hl0 : ¬ c0 < l0) (hD0 : (c0.toInt - l0.toInt).toNat < 2 ^ v0) (hk1 : s1.toInt = k1) (hw1 : w1.toInt = v1) (hv1 : v1 ≤ 32) (hm1 : (((1 : Int64) <<< (w1 &&& 0x3f).toInt64) - (1 : Int64)) = m1) (hl1 : ¬ c1 < l1) (hD1 : (c1.toInt - l1.toInt).toNat < 2 ^ v1) (hk2 : s2.toInt = k2) (hw2 : w2.toInt = v2) (hv2 : v2 ≤ 32) (hm2 : (((1 : Int64) <<< (w2 &&& 0x3f).toInt64) - (1 : Int64)) = m2) (hl2 : ¬ c2 < l2) (hD2 : (c2.toInt - l2.toInt).toNat < 2 ^ v2) (hk3 : s3.toInt = k3) (hw3 : w3.toInt = v3) (hv3 : v3 ≤ 32) (hm3 : (((1 : Int64) <<< (w3 &&& 0x3f).toInt64) - (1 : Int64)) = m3) (hl3 : ¬ c3 < l3) (hD3 : (c3.toInt - l3.toInt).toNat < 2 ^ v3) (hs0 : k0 + v0 = k1) (hs1 : k1 + v1 = k2) (hs2 : k2 + v2 = k3) (hs3 : k3 + v3 ≤ 64) : un (((((0 : Int64) ||| (pt c0 l0 s0)) ||| (pt c1 l1 s1)) ||| (pt c2 l2 s2)) ||| (pt c3 l3 s3)) s0 m0 l0 = c0 ∧ un (((((0 : Int64) ||| (pt c0 l0 s0)) ||| (pt c1 l1 s1)) ||| (pt c2 l2 s2)) ||| (pt c3 l3 s3)) s1 m1 l1 = c1 ∧ un (((((0 : Int64) ||| (pt c0 l0 s0)) ||| (pt c1 l1 s1)) ||| (pt c2 l2 s2)) ||| (pt c3 l3 s3)) s2 m2 l2 = c2 ∧ un (((((0 : Int64) ||| (pt c0 l0 s0)) ||| (pt c1 l1 s1)) ||| (pt c2 l2 s2)) ||| (pt c3 l3 s3)) s3 m3 l3 = c3 := by
  exact ⟨un_ok' hk0 (by omega) hw0 hv0 hm0 hl0 hD0 fun j hj => by rw [or_bit, or_bit, or_bit, or_bit, zero_bit, pt_bit' hk0 (by omega) hl0 hD0 _ (by omega), pt_bit' hk1 (by omega) hl1 hD1 _ (by omega), pt_bit' hk2 (by omega) hl2 hD2 _ (by omega), pt_bit' hk3 (by omega) hl3 hD3 _ (by omega), off_self, off_hi (D := (c1.toInt - l1.toInt).toNat) (k' := k1) (kw := v0) (by omega) hj, off_hi (D := (c2.toInt - l2.toInt).toNat) (k' := k2) (kw := v0) (by omega) hj, off_hi (D := (c3.toInt - l3.toInt).toNat) (k' := k3) (kw := v0) (by omega) hj]; simp, un_ok' hk1 (by omega) hw1 hv1 hm1 hl1 hD1 fun j hj => by rw [or_bit, or_bit, or_bit, or_bit, zero_bit, pt_bit' hk0 (by omega) hl0 hD0 _ (by omega), pt_bit' hk1 (by omega) hl1 hD1 _ (by omega), pt_bit' hk2 (by omega) hl2 hD2 _ (by omega), pt_bit' hk3 (by omega) hl3 hD3 _ (by omega), off_lo (by omega) hD0, off_self, off_hi (D := (c2.toInt - l2.toInt).toNat) (k' := k2) (kw := v1) (by omega) hj, off_hi (D := (c3.toInt - l3.toInt).toNat) (k' := k3) (kw := v1) (by omega) hj]; simp, un_ok' hk2 (by omega) hw2 hv2 hm2 hl2 hD2 fun j hj => by rw [or_bit, or_bit, or_bit, or_bit, zero_bit, pt_bit' hk0 (by omega) hl0 hD0 _ (by omega), pt_bit' hk1 (by omega) hl1 hD1 _ (by omega), pt_bit' hk2 (by omega) hl2 hD2 _ (by omega), pt_bit' hk3 (by omega) hl3 hD3 _ (by omega), off_lo (by omega) hD0, off_lo (by omega) hD1, off_self, off_hi (D := (c3.toInt - l3.toInt).toNat) (k' := k3) (kw := v2) (by omega) hj]; simp, un_ok' hk3 (by omega) hw3 hv3 hm3 hl3 hD3 fun j hj => by rw [or_bit, or_bit, or_bit, or_bit, zero_bit, pt_bit' hk0 (by omega) hl0 hD0 _ (by omega), pt_bit' hk1 (by omega) hl1 hD1 _ (by omega), pt_bit' hk2 (by omega) hl2 hD2 _ (by omega), pt_bit' hk3 (by omega) hl3 hD3 _ (by omega), off_lo (by omega) hD0, off_lo (by omega) hD1, off_lo (by omega) hD2, off_self]; simp⟩
theorem D_ok {c l u : Int32} {k : Nat} (h1 : ¬ c < l) (h2 : ¬ u < c) (h : u.toInt - l.toInt < 2 ^ k) : (c.toInt - l.toInt).toNat < 2 ^ k := by
  rw [Int32.lt_iff_toInt_lt] at h1 h2
  have e : ((2 ^ k : Nat) : Int) = 2 ^ k := by simp
  generalize (2 ^ k : Int) = P at *
  generalize (2 ^ k : Nat) = R at *
  omega
theorem sum_ok {s w t : Int32} {k v : Nat} (hk : s.toInt = k) (hv : w.toInt = v) (h1 : k ≤ 64) (h2 : v ≤ 64) (e : s + w = t) : t.toInt = ((k + v : Nat) : Int) := by
  subst e
  have a := c_iadd s w
  have r := rng32 (s + w)
  omega
theorem le64 {t : Int32} {k : Nat} (hk : t.toInt = k) : ¬ (64 : Int32) < t ↔ k ≤ 64 := by
  have e : (64 : Int32).toInt = 64 := by decide
  rw [Int32.lt_iff_toInt_lt, e]
  omega
theorem T0.rep : T0 (List.replicate 128 (.long 0)) := ⟨by simp, fun x hx => by rw [List.getElem?_replicate, if_pos hx]⟩
theorem full_ok (c : Int32) : ¬ c < (-2147483648 : Int32) ∧ ¬ (2147483647 : Int32) < c := by
  have r := rng32 c
  have e1 : (-2147483648 : Int32).toInt = -2147483648 := by decide
  have e2 : (2147483647 : Int32).toInt = 2147483647 := by decide
  rw [Int32.lt_iff_toInt_lt, Int32.lt_iff_toInt_lt, e1, e2]
  omega
theorem irr (c : Int32) : ¬ c < c := by
  rw [Int32.lt_iff_toInt_lt]
  omega
theorem bit_ok {y c : Int32} (hc : (-(y &&& (1 : Int32))) = c) : ¬ c < (-1 : Int32) ∧ ¬ (0 : Int32) < c := by
  subst hc
  have a := c_and y 1 (by decide)
  have e1 : (1 : Int32).toInt = 1 := by decide
  have e0 : (0 : Int32).toInt = 0 := by decide
  have em : (-1 : Int32).toInt = -1 := by decide
  have b := c_ineg (y &&& (1 : Int32))
  have r := rng32 (-(y &&& (1 : Int32)))
  rw [Int32.lt_iff_toInt_lt, Int32.lt_iff_toInt_lt, e0, em]
  omega
theorem kd_ok {y kd : Int32} (h : ((y.toUInt32 >>> ((2 : Int32) &&& 31).toUInt32).toInt32 % (5 : Int32)) = kd) : kd = 0 ∨ kd = 1 ∨ kd = 2 ∨ kd = 3 ∨ kd = 4 := by
  have a := c_iushr y 2 2 (by decide) (by decide)
  have P : ((2 ^ 2 : Nat) : Int) = 4 := by decide
  rw [P] at a
  have b := (c_irem ((y.toUInt32 >>> ((2 : Int32) &&& 31).toUInt32).toInt32) 5 5 (by decide)).1 (by omega)
  rw [h] at b
  have e0 : (0 : Int32).toInt = 0 := by decide
  have e1 : (1 : Int32).toInt = 1 := by decide
  have e2 : (2 : Int32).toInt = 2 := by decide
  have e3 : (3 : Int32).toInt = 3 := by decide
  have e4 : (4 : Int32).toInt = 4 := by decide
  simp only [← Int32.toInt_inj, e0, e1, e2, e3, e4]
  omega
theorem sp_val {l u : Int32} {sp : Int64} (h : ¬ u < l) (hsp : (((u).toInt64 - (l).toInt64) + (1 : Int64)) = sp) : sp.toInt = u.toInt - l.toInt + 1 := by
  have s := span h
  have a := c_ladd (u.toInt64 - l.toInt64) 1
  have r := rng64 ((u.toInt64 - l.toInt64) + 1)
  have e1 : (1 : Int64).toInt = 1 := by decide
  rw [hsp] at a r
  omega
theorem sp_ne {l u : Int32} {sp : Int64} (h : ¬ u < l) (hsp : (((u).toInt64 - (l).toInt64) + (1 : Int64)) = sp) : sp ≠ 0 := fun q => by
  have s := sp_val h hsp
  have e0 : (0 : Int64).toInt = 0 := by decide
  rw [q, e0] at s
  rw [Int32.lt_iff_toInt_lt] at h
  omega
theorem rem_ok {l u c : Int32} {y sp : Int64} (h : ¬ u < l) (hy : 0 ≤ y.toInt) (hsp : (((u).toInt64 - (l).toInt64) + (1 : Int64)) = sp) (hc : ((l).toInt64 + (y % sp)).toInt32 = c) : ¬ c < l ∧ ¬ u < c := by
  have S := sp_val h hsp
  rw [Int32.lt_iff_toInt_lt] at h
  have m2 := (c_lrem y sp _ rfl).1 hy
  rw [lrem_mod] at m2
  have b1 := Int.emod_nonneg y.toInt (b := sp.toInt) (by omega)
  have b2 := Int.emod_lt_of_pos y.toInt (b := sp.toInt) (by omega)
  rw [← m2] at b1 b2
  clear m2
  generalize y % sp = z at *
  have a2 := c_ladd l.toInt64 z
  rw [c_i2l] at a2
  have r2 := rng64 (l.toInt64 + z)
  have r1 := rng32 l
  have r3 := rng32 u
  have b := c_l2i (l.toInt64 + z)
  have r4 := rng32 (l.toInt64 + z).toInt32
  rw [hc] at b r4
  rw [Int32.lt_iff_toInt_lt, Int32.lt_iff_toInt_lt]
  omega
theorem lowL (x : Int64) : 0 ≤ (x &&& (4294967295 : Int64)).toInt := by
  rw [c_maskL x 4294967295 32 (by decide) (by decide)]
  exact Int.emod_nonneg _ (by decide)
theorem highL (x : Int64) : 0 ≤ (((x).toUInt64 >>> ((32 : Int32) &&& 0x3f).toInt64.toUInt64).toInt64).toInt := by
  have a := c_lushr x 32 32 (by decide) (by decide)
  have P : ((2 ^ 32 : Nat) : Int) = 4294967296 := by decide
  rw [P] at a
  omega
theorem bits0 {z w : Int32} (hb : ((64 : Int32) - ((32 : Int32) + (nlI ((z).toInt64 - (z).toInt64).toInt32))) = w) : ∃ k : Nat, k = 0 ∧ k ≤ 32 ∧ w.toInt = k ∧ z.toInt - z.toInt < 2 ^ k := by
  refine ⟨0, rfl, by decide, ?_, ?_⟩
  · rw [Int64.sub_self] at hb
    rw [← hb]
    decide +kernel
  · have e : (2 : Int) ^ 0 = 1 := rfl
    omega
set_option maxRecDepth 65536 in
set_option maxHeartbeats 40000000 in
theorem law_end1 (l : Launch) (Z : State) (a0 : Array Value) (hw : ∀ d ∈ tables_1, d.before a0 Z = true) {b pgs tb lo hi sh mk fi km pk : Nat} {kpgs ktb klo khi ksh kmk kfi kkm kpk : ClassId} {l0 u0 l1 u1 l2 u2 l3 u3 s1 s2 s3 : Int32} {m0 m1 m2 m3 KM0 : Int64} {pg al ah ca cb ia ib i0 : Nat} {kpg kia kib : ClassId} {sz j J sm x1 x4 c0 c1 c2 c3 d0 d1 d3 kd f0 g0 f1 g1 f2 g2 f3 g3 : Int32} {x2 x3 spn p0 q0 t0 : Int64} {vt vg : List Value} {h : Heap} (O : Old Z Z.heap.size h) (S : Sto Z h b pgs tb lo hi sh mk fi km pk kpgs ktb klo khi ksh kmk kfi kkm kpk (1 : Int32) (20 : Int32) sz [(.ref pg)] vt [(.int l0), (.int l1), (.int l2), (.int l3)] [(.int u0), (.int u1), (.int u2), (.int u3)] [(.int (0 : Int32)), (.int s1), (.int s2), (.int s3)] [(.long m0), (.long m1), (.long m2), (.long m3)] [(.int (0 : Int32)), (.int (4 : Int32))] [(.long KM0)] [(.long p0)]) (o : Ord Z.heap.size b pgs tb lo hi sh mk fi km pk) (Apg : Ar Z h pg .long kpg vg) (qpg : pk < pg) (hp0 : vg[0]? = some (.long q0)) (hj1 : ((j).toUInt32 >>> ((20 : Int32) &&& 31).toUInt32).toInt32 = 0) (hj2 : ((j &&& (1048575 : Int32)) * (1 : Int32)) = J) (hn0 : ¬ (J + (0 : Int32)) < 0) (hi0 : (J + (0 : Int32)).toNatClampNeg = i0) (hr0 : vg[i0]? = some (.long t0)) (Aia : Ar Z h ia .int kia [(.int f0), (.int f1), (.int f2), (.int f3), (.int x4)]) (Aib : Ar Z h ib .int kib [(.int g0), (.int g1), (.int g2), (.int g3), (.int x4)]) (be5 : ia < b) (be6 : ib < b) (be7 : ia < ib) (nia : Z.heap.size ≤ ia) (nib : Z.heap.size ≤ ib) (U0 : un q0 (0 : Int32) m0 l0 = c0) (V0 : un t0 (0 : Int32) m0 l0 = d0) (U1 : un q0 s1 m1 l1 = c1) (V1 : un t0 s1 m1 l1 = d1) (U2 : un q0 s2 m2 l2 = c2) (V2 : un t0 s2 m2 l2 = c2) (U3 : un q0 s3 m3 l3 = c3) (V3 : un t0 s3 m3 l3 = d3) (p : Program) (e : Env) (s : State) (m : MethodId) (below : List Frame) (meth : Method) (cd : Code) (C : Ctx p s m meth cd Z x code maxLocals ret) (cs sl : Nat) (hcs : cs ≤ room_1.cells) (hsl : sl ≤ room_1.slots) :
    Go p l e room_1 s m #[(.int c2), (.int x1), (.long x2), (.long x3), (.int x4)] below meth cd Z Z.heap.size (fun v _ => v = some (.int (1 : Int32))) room_1.cells room_1.slots h cs sl (mkF m 344 #[(.val (.int c2)), (.val (.int x1)), (.val (.long x2)), .second, (.val (.long x3)), .second, (.val (.int x4)), (.val (.int l0)), (.val (.int u0)), (.val (.long spn)), .second, (.val (.int c0)), (.val (.int d0)), (.val (.int c1)), (.val (.int d1)), (.val (.int c3)), (.val (.int d3)), (.val (.int kd)), (.val (.ref al)), (.val (.ref ah)), (.val (.ref ca)), (.val (.ref cb)), (.val (.ref ia)), (.val (.ref ib)), (.val (.ref b)), (.val (.int (0 : Int32))), (.val (.int j)), (.val (.int sm)), .unset, .unset] []) := by
  have o' := o
  obtain ⟨o0, o1, o2, o3, o4, o5, o6, o7, o8, o9⟩ := o
  refine go_aload C (pc' := 346) at_344 rfl rfl rfl ?_
  refine go_callV C (pc' := 349) (y' := site_346) (wd_119 hw) (wd_120 hw) (wd_122 hw) (wd_121 hw) (shut1_met l Z a0 hw _ _ O S o') (wd_123 hw) (wd_13 hw) (by decide) (by decide) (W := 0) (Nat.le_of_ble_eq_true rfl) (by decide) hcs hsl rfl S.1 (argsL := []) (rest := []) pd_10 rfl rfl rfl at_346 rfl ?_
  rintro _ h1 ⟨rfl, S1, K1⟩
  refine go_st (st' := []) rfl ?_
  refine go_old fun O1 => ?_
  refine go_aload C (pc' := 351) at_349 rfl rfl rfl ?_
  refine go_iload C (pc' := 353) at_351 rfl rfl ?_
  refine go_aload C (pc' := 355) at_353 rfl rfl rfl ?_
  refine go_callV C (pc' := 358) (y' := (⟨"com/example/invariant/invariant/check/ConfigurationStore", "copy", "(I[I)V"⟩ : MethodName)) (wd_124 hw) (wd_125 hw) (wd_127 hw) (wd_126 hw) (copy1_met l Z a0 hw _ _ O1 (J := (0 : Int32)) (i0 := 0) ⟨S1.1, S1.2.1, S1.2.2.1, S1.2.2.2.1, S1.2.2.2.2.1, S1.2.2.2.2.2.1, S1.2.2.2.2.2.2.1, S1.2.2.2.2.2.2.2.1, S1.2.2.2.2.2.2.2.2.1, S1.2.2.2.2.2.2.2.2.2.1, S1.2.2.2.2.2.2.2.2.2.2.1, S1.2.2.2.2.2.2.2.2.2.2.2.1, S1.2.2.2.2.2.2.2.2.2.2.2.2.1, S1.2.2.2.2.2.2.2.2.2.2.2.2.2.1, S1.2.2.2.2.2.2.2.2.2.2.2.2.2.2.1, S1.2.2.2.2.2.2.2.2.2.2.2.2.2.2.2.1, S1.2.2.2.2.2.2.2.2.2.2.2.2.2.2.2.2.1, S1.2.2.2.2.2.2.2.2.2.2.2.2.2.2.2.2.2.1, S1.2.2.2.2.2.2.2.2.2.2.2.2.2.2.2.2.2.2.1, S1.2.2.2.2.2.2.2.2.2.2.2.2.2.2.2.2.2.2.2⟩ o' be5 nia (Apg.keep K1 (ninS (ne_i (by omega)) nin0)) qpg (by decide) (by decide) (by decide) (by decide) hp0 (Aia.keep K1 (ninS (ne_i (by omega)) nin0))) (wd_128 hw) (wd_13 hw) (by decide) (by decide) (W := 0) (Nat.le_of_ble_eq_true rfl) (by decide) hcs hsl rfl S1.1 (argsL := [(.int (0 : Int32)), (.ref ia)]) (rest := []) pd_11 rfl rfl rfl at_355 rfl ?_
  rintro _ h2 ⟨rfl, Bia, Kia⟩
  refine go_st (st' := []) rfl ?_
  refine go_old fun O2 => ?_
  rw [U0, U1, U2, U3] at Bia
  refine go_aload C (pc' := 360) at_358 rfl rfl rfl ?_
  refine go_iload C (pc' := 362) at_360 rfl rfl ?_
  refine go_aload C (pc' := 364) at_362 rfl rfl rfl ?_
  have fx3 := (S1.2.2.2.2.2.2.2.2.2.2.2.2.2.1.keep Kia (ninS (ne_i (by omega)) nin0))
  have fx4 := (S1.2.2.2.2.2.2.2.2.2.2.2.2.2.2.1.keep Kia (ninS (ne_i (by omega)) nin0))
  have fx5 := (S1.2.2.2.2.2.2.2.2.2.2.2.2.2.2.2.1.keep Kia (ninS (ne_i (by omega)) nin0))
  have fx6 := (S1.2.2.2.2.2.2.2.2.2.2.2.2.2.2.2.2.1.keep Kia (ninS (ne_i (by omega)) nin0))
  have fx7 := (S1.2.2.2.2.2.2.2.2.2.2.2.2.2.2.2.2.2.1.keep Kia (ninS (ne_i (by omega)) nin0))
  have fx8 := (S1.2.2.2.2.2.2.2.2.2.2.2.2.2.2.2.2.2.2.1.keep Kia (ninS (ne_i (by omega)) nin0))
  have fx9 := (S1.2.2.2.2.2.2.2.2.2.2.2.2.2.2.2.2.2.2.2.keep Kia (ninS (ne_i (by omega)) nin0))
  have fx10 := ((Apg.keep K1 (ninS (ne_i (by omega)) nin0)).keep Kia (ninS (ne_i (by omega)) nin0))
  have fx11 := ((Aib.keep K1 (ninS (ne_i (by omega)) nin0)).keep Kia (ninS (ne_i (by omega)) nin0))
  refine go_callV C (pc' := 367) (y' := (⟨"com/example/invariant/invariant/check/ConfigurationStore", "copy", "(I[I)V"⟩ : MethodName)) (wd_124 hw) (wd_125 hw) (wd_127 hw) (wd_126 hw) (copy1_met l Z a0 hw _ _ O2 ⟨(S1.1.keep Kia), (S1.2.1.keep Kia (ninS (ne_i (by omega)) nin0)), (S1.2.2.1.keep Kia (ninS (ne_i (by omega)) nin0)), (S1.2.2.2.1.keep Kia (ninS (ne_i (by omega)) nin0)), (S1.2.2.2.2.1.keep Kia (ninS (ne_i (by omega)) nin0)), (S1.2.2.2.2.2.1.keep Kia (ninS (ne_i (by omega)) nin0)), (S1.2.2.2.2.2.2.1.keep Kia (ninS (ne_i (by omega)) nin0)), (S1.2.2.2.2.2.2.2.1.keep Kia (ninS (ne_i (by omega)) nin0)), (S1.2.2.2.2.2.2.2.2.1.keep Kia (ninS (ne_i (by omega)) nin0)), (S1.2.2.2.2.2.2.2.2.2.1.keep Kia (ninS (ne_i (by omega)) nin0)), (S1.2.2.2.2.2.2.2.2.2.2.1.keep Kia (ninS (ne_i (by omega)) nin0)), (S1.2.2.2.2.2.2.2.2.2.2.2.1.keep Kia (ninS (ne_i (by omega)) nin0)), (S1.2.2.2.2.2.2.2.2.2.2.2.2.1.keep Kia (ninS (ne_i (by omega)) nin0)), fx3, fx4, fx5, fx6, fx7, fx8, fx9⟩ o' be6 nib fx10 qpg hj1 hj2 hn0 hi0 hr0 fx11) (wd_128 hw) (wd_13 hw) (by decide) (by decide) (W := 0) (Nat.le_of_ble_eq_true rfl) (by decide) hcs hsl rfl (S1.1.keep Kia) (argsL := [(.int j), (.ref ib)]) (rest := []) pd_11 rfl rfl rfl at_364 rfl ?_
  rintro _ h12 ⟨rfl, Bib, Kib⟩
  refine go_st (st' := []) rfl ?_
  refine go_old fun O12 => ?_
  rw [V0, V1, V2, V3] at Bib
  refine go_aload C (pc' := 369) at_367 rfl rfl rfl ?_
  refine go_iconst C (pc' := 370) at_369 (z := (0 : Int32)) (by decide) rfl ?_
  refine go_iaget C (pc' := 371) (Bia.keep Kib (ninS (ne_i (by omega)) nin0)) (by decide) (i := 0) (by decide) rfl at_370 rfl ?_
  refine go_iload C (pc' := 373) at_371 rfl rfl ?_
  refine go_icmpNo C (pc' := 376) at_373 (teq rfl).2 rfl ?_
  refine go_aload C (pc' := 378) at_376 rfl rfl rfl ?_
  refine go_iconst C (pc' := 379) at_378 (z := (1 : Int32)) (by decide) rfl ?_
  refine go_iaget C (pc' := 380) (Bia.keep Kib (ninS (ne_i (by omega)) nin0)) (by decide) (i := 1) (by decide) rfl at_379 rfl ?_
  refine go_iload C (pc' := 382) at_380 rfl rfl ?_
  refine go_icmpNo C (pc' := 385) at_382 (teq rfl).2 rfl ?_
  refine go_aload C (pc' := 387) at_385 rfl rfl rfl ?_
  refine go_iconst C (pc' := 388) at_387 (z := (2 : Int32)) (by decide) rfl ?_
  refine go_iaget C (pc' := 389) (Bia.keep Kib (ninS (ne_i (by omega)) nin0)) (by decide) (i := 2) (by decide) rfl at_388 rfl ?_
  refine go_iloadN C (pc' := 390) at_389 rfl rfl ?_
  refine go_icmpNo C (pc' := 393) at_390 (teq rfl).2 rfl ?_
  refine go_aload C (pc' := 395) at_393 rfl rfl rfl ?_
  refine go_iconst C (pc' := 396) at_395 (z := (3 : Int32)) (by decide) rfl ?_
  refine go_iaget C (pc' := 397) (Bia.keep Kib (ninS (ne_i (by omega)) nin0)) (by decide) (i := 3) (by decide) rfl at_396 rfl ?_
  refine go_iload C (pc' := 399) at_397 rfl rfl ?_
  refine go_icmpNo C (pc' := 402) at_399 (teq rfl).2 rfl ?_
  refine go_aload C (pc' := 404) at_402 rfl rfl rfl ?_
  refine go_iconst C (pc' := 405) at_404 (z := (4 : Int32)) (by decide) rfl ?_
  refine go_iaget C (pc' := 406) (Bia.keep Kib (ninS (ne_i (by omega)) nin0)) (by decide) (i := 4) (by decide) rfl at_405 rfl ?_
  refine go_iload C (pc' := 408) at_406 rfl rfl ?_
  refine go_icmpNo C (pc' := 411) at_408 (teq rfl).2 rfl ?_
  refine go_iconst C (pc' := 412) at_411 (z := (1 : Int32)) (by decide) rfl ?_
  refine go_goto C (pc' := 416) at_412 (by decide) (by decide) ?_
  refine go_istore C (pc' := 418) at_416 (Ls' := #[(.val (.int c2)), (.val (.int x1)), (.val (.long x2)), .second, (.val (.long x3)), .second, (.val (.int x4)), (.val (.int l0)), (.val (.int u0)), (.val (.long spn)), .second, (.val (.int c0)), (.val (.int d0)), (.val (.int c1)), (.val (.int d1)), (.val (.int c3)), (.val (.int d3)), (.val (.int kd)), (.val (.ref al)), (.val (.ref ah)), (.val (.ref ca)), (.val (.ref cb)), (.val (.ref ia)), (.val (.ref ib)), (.val (.ref b)), (.val (.int (0 : Int32))), (.val (.int j)), (.val (.int sm)), (.val (.int (1 : Int32))), .unset]) rfl rfl ?_
  refine go_aload C (pc' := 420) at_418 rfl rfl rfl ?_
  refine go_iconst C (pc' := 421) at_420 (z := (0 : Int32)) (by decide) rfl ?_
  refine go_iaget C (pc' := 422) Bib (by decide) (i := 0) (by decide) rfl at_421 rfl ?_
  refine go_iload C (pc' := 424) at_422 rfl rfl ?_
  refine go_icmpNo C (pc' := 427) at_424 (teq rfl).2 rfl ?_
  refine go_aload C (pc' := 429) at_427 rfl rfl rfl ?_
  refine go_iconst C (pc' := 430) at_429 (z := (1 : Int32)) (by decide) rfl ?_
  refine go_iaget C (pc' := 431) Bib (by decide) (i := 1) (by decide) rfl at_430 rfl ?_
  refine go_iload C (pc' := 433) at_431 rfl rfl ?_
  refine go_icmpNo C (pc' := 436) at_433 (teq rfl).2 rfl ?_
  refine go_aload C (pc' := 438) at_436 rfl rfl rfl ?_
  refine go_iconst C (pc' := 439) at_438 (z := (2 : Int32)) (by decide) rfl ?_
  refine go_iaget C (pc' := 440) Bib (by decide) (i := 2) (by decide) rfl at_439 rfl ?_
  refine go_iloadN C (pc' := 441) at_440 rfl rfl ?_
  refine go_icmpNo C (pc' := 444) at_441 (teq rfl).2 rfl ?_
  refine go_aload C (pc' := 446) at_444 rfl rfl rfl ?_
  refine go_iconst C (pc' := 447) at_446 (z := (3 : Int32)) (by decide) rfl ?_
  refine go_iaget C (pc' := 448) Bib (by decide) (i := 3) (by decide) rfl at_447 rfl ?_
  refine go_iload C (pc' := 450) at_448 rfl rfl ?_
  refine go_icmpNo C (pc' := 453) at_450 (teq rfl).2 rfl ?_
  refine go_aload C (pc' := 455) at_453 rfl rfl rfl ?_
  refine go_iconst C (pc' := 456) at_455 (z := (4 : Int32)) (by decide) rfl ?_
  refine go_iaget C (pc' := 457) Bib (by decide) (i := 4) (by decide) rfl at_456 rfl ?_
  refine go_iload C (pc' := 459) at_457 rfl rfl ?_
  refine go_icmpNo C (pc' := 462) at_459 (teq rfl).2 rfl ?_
  refine go_iconst C (pc' := 463) at_462 (z := (1 : Int32)) (by decide) rfl ?_
  refine go_goto C (pc' := 467) at_463 (by decide) (by decide) ?_
  refine go_istore C (pc' := 469) at_467 (Ls' := #[(.val (.int c2)), (.val (.int x1)), (.val (.long x2)), .second, (.val (.long x3)), .second, (.val (.int x4)), (.val (.int l0)), (.val (.int u0)), (.val (.long spn)), .second, (.val (.int c0)), (.val (.int d0)), (.val (.int c1)), (.val (.int d1)), (.val (.int c3)), (.val (.int d3)), (.val (.int kd)), (.val (.ref al)), (.val (.ref ah)), (.val (.ref ca)), (.val (.ref cb)), (.val (.ref ia)), (.val (.ref ib)), (.val (.ref b)), (.val (.int (0 : Int32))), (.val (.int j)), (.val (.int sm)), (.val (.int (1 : Int32))), (.val (.int (1 : Int32)))]) rfl rfl ?_
  refine go_iload C (pc' := 471) at_469 rfl rfl ?_
  refine go_ifNo C (pc' := 474) at_471 (by decide) rfl ?_
  refine go_iload C (pc' := 476) at_474 rfl rfl ?_
  refine go_ifNo C (pc' := 479) at_476 (by decide) rfl ?_
  refine go_iconst C (pc' := 480) at_479 (z := (1 : Int32)) (by decide) rfl ?_
  refine go_goto C (pc' := 484) at_480 (by decide) (by decide) ?_
  exact go_retN C (by simp) (z' := (1 : Int32)) (by decide) at_484 hcs hsl rfl
set_option maxRecDepth 65536 in
set_option maxHeartbeats 40000000 in
theorem law_tail1 (l : Launch) (Z : State) (a0 : Array Value) (hw : ∀ d ∈ tables_1, d.before a0 Z = true) (x1 x4 kd : Int32) (x2 x3 spn : Int64) (b al ah ca cb ia ib : Nat) (kal kah kca kcb kia kib : ClassId) (hk : kd = 0 ∨ kd = 1 ∨ kd = 2 ∨ kd = 3 ∨ kd = 4) (l0 u0 w0 l1 u1 w1 l2 u2 w2 l3 u3 w3 s1 s2 s3 : Int32) (m0 m1 m2 m3 : Int64) (hz0 : (((u0).toInt64 - (l0).toInt64).toUInt64 >>> ((32 : Int32) &&& 0x3f).toInt64.toUInt64).toInt64.toInt32 = 0) (hb0 : ((64 : Int32) - ((32 : Int32) + (nlI ((u0).toInt64 - (l0).toInt64).toInt32))) = w0) (hm0 : (((1 : Int64) <<< (w0 &&& 0x3f).toInt64) - (1 : Int64)) = m0) (hs1 : ((0 : Int32) + w0) = s1) (hc0 : ¬ (64 : Int32) < s1) (hz1 : (((u1).toInt64 - (l1).toInt64).toUInt64 >>> ((32 : Int32) &&& 0x3f).toInt64.toUInt64).toInt64.toInt32 = 0) (hb1 : ((64 : Int32) - ((32 : Int32) + (nlI ((u1).toInt64 - (l1).toInt64).toInt32))) = w1) (hm1 : (((1 : Int64) <<< (w1 &&& 0x3f).toInt64) - (1 : Int64)) = m1) (hs2 : (s1 + w1) = s2) (hc1 : ¬ (64 : Int32) < s2) (hz2 : (((u2).toInt64 - (l2).toInt64).toUInt64 >>> ((32 : Int32) &&& 0x3f).toInt64.toUInt64).toInt64.toInt32 = 0) (hb2 : ((64 : Int32) - ((32 : Int32) + (nlI ((u2).toInt64 - (l2).toInt64).toInt32))) = w2) (hm2 : (((1 : Int64) <<< (w2 &&& 0x3f).toInt64) - (1 : Int64)) = m2) (hs3 : (s2 + w2) = s3) (hc2 : ¬ (64 : Int32) < s3) (hz3 : (((u3).toInt64 - (l3).toInt64).toUInt64 >>> ((32 : Int32) &&& 0x3f).toInt64.toUInt64).toInt64.toInt32 = 0) (hb3 : ((64 : Int32) - ((32 : Int32) + (nlI ((u3).toInt64 - (l3).toInt64).toInt32))) = w3) (hm3 : (((1 : Int64) <<< (w3 &&& 0x3f).toInt64) - (1 : Int64)) = m3) (hc3 : ¬ (64 : Int32) < (s3 + w3)) (c0 c1 c2 c3 d0 d1 d3 f0 g0 f1 g1 f2 g2 f3 g3 : Int32) (q0 r0 : Int64) (hl0 : ¬ c0 < l0) (hu0 : ¬ u0 < c0) (hl1 : ¬ c1 < l1) (hu1 : ¬ u1 < c1) (hl2 : ¬ c2 < l2) (hu2 : ¬ u2 < c2) (hl3 : ¬ c3 < l3) (hu3 : ¬ u3 < c3) (gl0 : ¬ d0 < l0) (gu0 : ¬ u0 < d0) (gl1 : ¬ d1 < l1) (gu1 : ¬ u1 < d1) (gl2 : ¬ c2 < l2) (gu2 : ¬ u2 < c2) (gl3 : ¬ d3 < l3) (gu3 : ¬ u3 < d3) (hP0 : (((((0 : Int64) ||| (pt c0 l0 (0 : Int32))) ||| (pt c1 l1 s1)) ||| (pt c2 l2 s2)) ||| (pt c3 l3 s3)) = q0) (hR0 : (((((0 : Int64) ||| (pt d0 l0 (0 : Int32))) ||| (pt d1 l1 s1)) ||| (pt c2 l2 s2)) ||| (pt d3 l3 s3)) = r0) (U0 : un q0 (0 : Int32) m0 l0 = c0) (V0 : un r0 (0 : Int32) m0 l0 = d0) (U1 : un q0 s1 m1 l1 = c1) (V1 : un r0 s1 m1 l1 = d1) (U2 : un q0 s2 m2 l2 = c2) (V2 : un r0 s2 m2 l2 = c2) (U3 : un q0 s3 m3 l3 = c3) (V3 : un r0 s3 m3 l3 = d3) (h : Heap) (O : Old Z Z.heap.size h) (Aal : Ar Z h al .int kal [(.int l0), (.int l1), (.int l2), (.int l3)]) (Aah : Ar Z h ah .int kah [(.int u0), (.int u1), (.int u2), (.int u3)]) (Aca : Ar Z h ca .int kca [(.int c0), (.int c1), (.int c2), (.int c3)]) (Acb : Ar Z h cb .int kcb [(.int d0), (.int d1), (.int c2), (.int d3)]) (Aia : Ar Z h ia .int kia [(.int f0), (.int f1), (.int f2), (.int f3), (.int x4)]) (Aib : Ar Z h ib .int kib [(.int g0), (.int g1), (.int g2), (.int g3), (.int x4)]) (Eal : Exa Z h al "[I") (Eah : Exa Z h ah "[I") (E_b : Exa Z h b "com/example/invariant/invariant/check/ConfigurationStore") (F_b_low : Fld Z h b "com/example/invariant/invariant/check/ConfigurationStore" "low" "[I" .null) (F_b_high : Fld Z h b "com/example/invariant/invariant/check/ConfigurationStore" "high" "[I" .null) (F_b_firstInt : Fld Z h b "com/example/invariant/invariant/check/ConfigurationStore" "firstInt" "[I" .null) (F_b_words : Fld Z h b "com/example/invariant/invariant/check/ConfigurationStore" "words" "I" (.int (0 : Int32))) (F_b_shift : Fld Z h b "com/example/invariant/invariant/check/ConfigurationStore" "shift" "[I" .null) (F_b_mask : Fld Z h b "com/example/invariant/invariant/check/ConfigurationStore" "mask" "[J" .null) (F_b_keyMask : Fld Z h b "com/example/invariant/invariant/check/ConfigurationStore" "keyMask" "[J" .null) (F_b_pageShift : Fld Z h b "com/example/invariant/invariant/check/ConfigurationStore" "pageShift" "I" (.int (0 : Int32))) (F_b_pages : Fld Z h b "com/example/invariant/invariant/check/ConfigurationStore" "pages" "[[J" .null) (F_b_size : Fld Z h b "com/example/invariant/invariant/check/ConfigurationStore" "size" "I" (.int (0 : Int32))) (F_b_table : Fld Z h b "com/example/invariant/invariant/check/ConfigurationStore" "table" "[J" .null) (F_b_packed : Fld Z h b "com/example/invariant/invariant/check/ConfigurationStore" "packed" "[J" .null) (nb : Z.heap.size ≤ b) (be1 : al < b) (be2 : ah < b) (be3 : ca < b) (be4 : cb < b) (be5 : ia < b) (be6 : ib < b) (be7 : ia < ib) (nia : Z.heap.size ≤ ia) (nib : Z.heap.size ≤ ib) (p : Program) (e : Env) (s : State) (m : MethodId) (below : List Frame) (meth : Method) (cd : Code) (C : Ctx p s m meth cd Z x code maxLocals ret) :
    Go p l e room_1 s m #[(.int c2), (.int x1), (.long x2), (.long x3), (.int x4)] below meth cd Z Z.heap.size (fun v _ => v = some (.int (1 : Int32))) room_1.cells room_1.slots h 7 38 (mkF m 269 #[(.val (.int c2)), (.val (.int x1)), (.val (.long x2)), .second, (.val (.long x3)), .second, (.val (.int x4)), (.val (.int l0)), (.val (.int u0)), (.val (.long spn)), .second, (.val (.int c0)), (.val (.int d0)), (.val (.int c1)), (.val (.int d1)), (.val (.int c3)), (.val (.int d3)), (.val (.int kd)), (.val (.ref al)), (.val (.ref ah)), (.val (.ref ca)), (.val (.ref cb)), (.val (.ref ia)), (.val (.ref ib)), .unset, .unset, .unset, .unset, .unset, .unset] [(.int kd), (.ref ah), (.ref al), (.ref b), (.ref b)]) := by
  refine go_callC C (pc' := 272) (y' := (⟨"com/example/invariant/invariant/check/ConfigurationStore", "<init>", "([I[II)V"⟩ : MethodName)) (wd_14 hw) (wd_15 hw) rfl rfl (init1_met l Z a0 hw _ _ O b al ah kal kah kd hk l0 u0 w0 l1 u1 w1 l2 u2 w2 l3 u3 w3 s1 s2 s3 m0 m1 m2 m3 hz0 hb0 hm0 hs1 hc0 hz1 hb1 hm1 hs2 hc1 hz2 hb2 hm2 hs3 hc2 hz3 hb3 hm3 hc3 Aal Aah Eal Eah E_b F_b_low F_b_high F_b_firstInt F_b_words F_b_shift F_b_mask F_b_keyMask F_b_pageShift F_b_pages F_b_size F_b_table F_b_packed nb be1 be2) (wd_16 hw) (wd_13 hw) (by decide) (by decide) (W := 1) (Nat.le_of_ble_eq_true rfl) (by decide) (by decide) (by decide) rfl (a := b) (argsL := [(.ref al), (.ref ah), (.int kd)]) (rest := [(.ref b)]) pd_12 rfl rfl rfl at_269 rfl ?_
  rintro _ h1 ⟨rfl, pgs, tb, lo, hi, sh, mk, fi, km, pk, kpgs, ktb, klo, khi, ksh, kmk, kfi, kkm, kpk, KM0, S0, o, KI⟩
  refine go_st (st' := [(.ref b)]) rfl ?_
  refine go_old fun O1 => ?_
  have o' := o
  obtain ⟨o0, o1, o2, o3, o4, o5, o6, o7, o8, o9⟩ := o
  refine go_astore C (pc' := 274) at_272 rfl (Ls' := #[(.val (.int c2)), (.val (.int x1)), (.val (.long x2)), .second, (.val (.long x3)), .second, (.val (.int x4)), (.val (.int l0)), (.val (.int u0)), (.val (.long spn)), .second, (.val (.int c0)), (.val (.int d0)), (.val (.int c1)), (.val (.int d1)), (.val (.int c3)), (.val (.int d3)), (.val (.int kd)), (.val (.ref al)), (.val (.ref ah)), (.val (.ref ca)), (.val (.ref cb)), (.val (.ref ia)), (.val (.ref ib)), (.val (.ref b)), .unset, .unset, .unset, .unset, .unset]) rfl rfl ?_
  refine go_aload C (pc' := 276) at_274 rfl rfl rfl ?_
  refine go_aload C (pc' := 278) at_276 rfl rfl rfl ?_
  refine go_callV C (pc' := 281) (y' := (⟨"com/example/invariant/invariant/check/ConfigurationStore", "add", "([I)I"⟩ : MethodName)) (wd_75 hw) (wd_76 hw) (wd_78 hw) (wd_77 hw) (add1_0_met l Z a0 hw _ _ O1 S0 o' (Aca.keep KI (ninS (ne_i (by omega)) nin0)) be3 hl0 hu0 hl1 hu1 hl2 hu2 hl3 hu3 hP0 rfl T0.rep) (wd_79 hw) (wd_13 hw) (by decide) (by decide) (W := 0) (Nat.le_of_ble_eq_true rfl) (by decide) (by decide) (by decide) rfl S0.1 (argsL := [(.ref ca)]) (rest := []) pd_5 rfl rfl rfl at_278 rfl ?_
  rintro _ h2 ⟨rfl, pg, kpg, vt1, T1x, qpg, S1, Apg, KA⟩
  refine go_st (st' := [(.int (0 : Int32))]) rfl ?_
  refine go_old fun O2 => ?_
  refine go_istore C (pc' := 283) at_281 (Ls' := #[(.val (.int c2)), (.val (.int x1)), (.val (.long x2)), .second, (.val (.long x3)), .second, (.val (.int x4)), (.val (.int l0)), (.val (.int u0)), (.val (.long spn)), .second, (.val (.int c0)), (.val (.int d0)), (.val (.int c1)), (.val (.int d1)), (.val (.int c3)), (.val (.int d3)), (.val (.int kd)), (.val (.ref al)), (.val (.ref ah)), (.val (.ref ca)), (.val (.ref cb)), (.val (.ref ia)), (.val (.ref ib)), (.val (.ref b)), (.val (.int (0 : Int32))), .unset, .unset, .unset, .unset]) rfl rfl ?_
  refine go_aload C (pc' := 285) at_283 rfl rfl rfl ?_
  refine go_aload C (pc' := 287) at_285 rfl rfl rfl ?_
  have fx3 := ((Acb.keep KI (ninS (ne_i (by omega)) nin0)).keep KA (ninS (ne_i (by omega)) (ninS (ne_i (by omega)) (ninS (ne_i (by omega)) (ninS (ne_i (by omega)) nin0)))))
  refine go_callV C (pc' := 290) (y' := (⟨"com/example/invariant/invariant/check/ConfigurationStore", "add", "([I)I"⟩ : MethodName)) (wd_75 hw) (wd_76 hw) (wd_78 hw) (wd_77 hw) (add1_1_met l Z a0 hw _ _ O2 S1 o' fx3 be4 gl0 gu0 gl1 gu1 gl2 gu2 gl3 gu3 hR0 rfl T1x rfl qpg Apg) (wd_79 hw) (wd_13 hw) (by decide) (by decide) (W := 0) (Nat.le_of_ble_eq_true rfl) (by decide) (by decide) (by decide) rfl S1.1 (argsL := [(.ref cb)]) (rest := []) pd_5 rfl rfl rfl at_287 rfl ?_
  rintro _ h4 ⟨r, sz2, vt2, vg, rfl, hr, S2, Apg2, KB⟩
  refine go_st (st' := [(.int r)]) rfl ?_
  refine go_old fun O4 => ?_
  rcases hr with ⟨rfl, y0, rfl⟩ | ⟨rfl, hne, rfl⟩
  · refine go_st (st' := [(.int (0 : Int32))]) rfl ?_
    have e0 : c0 = d0 := by rw [← U0, ← V0, y0]
    refine go_istore C (pc' := 292) at_290 (Ls' := #[(.val (.int c2)), (.val (.int x1)), (.val (.long x2)), .second, (.val (.long x3)), .second, (.val (.int x4)), (.val (.int l0)), (.val (.int u0)), (.val (.long spn)), .second, (.val (.int c0)), (.val (.int d0)), (.val (.int c1)), (.val (.int d1)), (.val (.int c3)), (.val (.int d3)), (.val (.int kd)), (.val (.ref al)), (.val (.ref ah)), (.val (.ref ca)), (.val (.ref cb)), (.val (.ref ia)), (.val (.ref ib)), (.val (.ref b)), (.val (.int (0 : Int32))), (.val (.int (0 : Int32))), .unset, .unset, .unset]) rfl rfl ?_
    refine go_iload C (pc' := 294) at_292 rfl rfl ?_
    refine go_iload C (pc' := 296) at_294 rfl rfl ?_
    refine go_icmpNo C (pc' := 299) at_296 (teq e0).2 rfl ?_
    have e1 : c1 = d1 := by rw [← U1, ← V1, y0]
    refine go_iload C (pc' := 301) at_299 rfl rfl ?_
    refine go_iload C (pc' := 303) at_301 rfl rfl ?_
    refine go_icmpNo C (pc' := 306) at_303 (teq e1).2 rfl ?_
    have e3 : c3 = d3 := by rw [← U3, ← V3, y0]
    refine go_iload C (pc' := 308) at_306 rfl rfl ?_
    refine go_iload C (pc' := 310) at_308 rfl rfl ?_
    refine go_icmpNo C (pc' := 313) at_310 (teq e3).2 rfl ?_
    refine go_iconst C (pc' := 314) at_313 (z := (1 : Int32)) (by decide) rfl ?_
    refine go_goto C (pc' := 318) at_314 (by decide) (by decide) ?_
    refine go_istore C (pc' := 320) at_318 (Ls' := #[(.val (.int c2)), (.val (.int x1)), (.val (.long x2)), .second, (.val (.long x3)), .second, (.val (.int x4)), (.val (.int l0)), (.val (.int u0)), (.val (.long spn)), .second, (.val (.int c0)), (.val (.int d0)), (.val (.int c1)), (.val (.int d1)), (.val (.int c3)), (.val (.int d3)), (.val (.int kd)), (.val (.ref al)), (.val (.ref ah)), (.val (.ref ca)), (.val (.ref cb)), (.val (.ref ia)), (.val (.ref ib)), (.val (.ref b)), (.val (.int (0 : Int32))), (.val (.int (0 : Int32))), (.val (.int (1 : Int32))), .unset, .unset]) rfl rfl ?_
    refine go_iload C (pc' := 322) at_320 rfl rfl ?_
    refine go_ifYes C (pc' := 327) at_322 (by decide) (by decide) (by decide) ?_
    refine go_iload C (pc' := 329) at_327 rfl rfl ?_
    refine go_iload C (pc' := 331) at_329 rfl rfl ?_
    refine go_ifNo C (pc' := 334) at_331 (by decide) rfl ?_
    refine go_iconst C (pc' := 335) at_334 (z := (0 : Int32)) (by decide) rfl ?_
    refine go_goto C (pc' := 339) at_335 (by decide) (by decide) ?_
    refine go_icmpYes C (pc' := 344) at_339 (by decide) (by decide) (by decide) ?_
    have fx5 := (((Aia.keep KI (ninS (ne_i (by omega)) nin0)).keep KA (ninS (ne_i (by omega)) (ninS (ne_i (by omega)) (ninS (ne_i (by omega)) (ninS (ne_i (by omega)) nin0))))).keep KB (ninS (ne_i (by omega)) (ninS (ne_i (by omega)) (ninS (ne_i (by omega)) (ninS (ne_i (by omega)) nin0)))))
    have fx6 := (((Aib.keep KI (ninS (ne_i (by omega)) nin0)).keep KA (ninS (ne_i (by omega)) (ninS (ne_i (by omega)) (ninS (ne_i (by omega)) (ninS (ne_i (by omega)) nin0))))).keep KB (ninS (ne_i (by omega)) (ninS (ne_i (by omega)) (ninS (ne_i (by omega)) (ninS (ne_i (by omega)) nin0)))))
    exact law_end1 l Z a0 hw (J := (0 : Int32)) (i0 := 0) O4 S2 o' Apg2 qpg rfl (by decide) (by decide) (by decide) (by decide) rfl fx5 fx6 be5 be6 be7 nia nib U0 (by rw [← y0]; exact V0) U1 (by rw [← y0]; exact V1) U2 (by rw [← y0]; exact V2) U3 (by rw [← y0]; exact V3) p e s m below meth cd C _ _ (by decide) (by decide)
  · refine go_st (st' := [(.int (1 : Int32))]) rfl ?_
    refine go_istore C (pc' := 292) at_290 (Ls' := #[(.val (.int c2)), (.val (.int x1)), (.val (.long x2)), .second, (.val (.long x3)), .second, (.val (.int x4)), (.val (.int l0)), (.val (.int u0)), (.val (.long spn)), .second, (.val (.int c0)), (.val (.int d0)), (.val (.int c1)), (.val (.int d1)), (.val (.int c3)), (.val (.int d3)), (.val (.int kd)), (.val (.ref al)), (.val (.ref ah)), (.val (.ref ca)), (.val (.ref cb)), (.val (.ref ia)), (.val (.ref ib)), (.val (.ref b)), (.val (.int (0 : Int32))), (.val (.int (1 : Int32))), .unset, .unset, .unset]) rfl rfl ?_
    refine go_iload C (pc' := 294) at_292 rfl rfl ?_
    refine go_iload C (pc' := 296) at_294 rfl rfl ?_
    by_cases ef0 : c0 = d0
    · refine go_icmpNo C (pc' := 299) at_296 (teq ef0).2 rfl ?_
      refine go_iload C (pc' := 301) at_299 rfl rfl ?_
      refine go_iload C (pc' := 303) at_301 rfl rfl ?_
      by_cases ef1 : c1 = d1
      · refine go_icmpNo C (pc' := 306) at_303 (teq ef1).2 rfl ?_
        refine go_iload C (pc' := 308) at_306 rfl rfl ?_
        refine go_iload C (pc' := 310) at_308 rfl rfl ?_
        by_cases ef2 : c3 = d3
        · refine go_icmpNo C (pc' := 313) at_310 (teq ef2).2 rfl ?_
          exact absurd (show r0 = q0 by subst ef0 ef1 ef2; exact hR0.symm.trans hP0) hne
        · refine go_icmpYes C (pc' := 317) at_310 (feq ef2).2 (by decide) (by decide) ?_
          refine go_iconst C (pc' := 318) at_317 (z := (0 : Int32)) (by decide) rfl ?_
          refine go_istore C (pc' := 320) at_318 (Ls' := #[(.val (.int c2)), (.val (.int x1)), (.val (.long x2)), .second, (.val (.long x3)), .second, (.val (.int x4)), (.val (.int l0)), (.val (.int u0)), (.val (.long spn)), .second, (.val (.int c0)), (.val (.int d0)), (.val (.int c1)), (.val (.int d1)), (.val (.int c3)), (.val (.int d3)), (.val (.int kd)), (.val (.ref al)), (.val (.ref ah)), (.val (.ref ca)), (.val (.ref cb)), (.val (.ref ia)), (.val (.ref ib)), (.val (.ref b)), (.val (.int (0 : Int32))), (.val (.int (1 : Int32))), (.val (.int (0 : Int32))), .unset, .unset]) rfl rfl ?_
          refine go_iload C (pc' := 322) at_320 rfl rfl ?_
          refine go_ifYes C (pc' := 327) at_322 (by decide) (by decide) (by decide) ?_
          refine go_iload C (pc' := 329) at_327 rfl rfl ?_
          refine go_iload C (pc' := 331) at_329 rfl rfl ?_
          refine go_ifYes C (pc' := 338) at_331 (by decide) (by decide) (by decide) ?_
          refine go_iconst C (pc' := 339) at_338 (z := (1 : Int32)) (by decide) rfl ?_
          refine go_icmpYes C (pc' := 344) at_339 (by decide) (by decide) (by decide) ?_
          have fx7 := (((Aia.keep KI (ninS (ne_i (by omega)) nin0)).keep KA (ninS (ne_i (by omega)) (ninS (ne_i (by omega)) (ninS (ne_i (by omega)) (ninS (ne_i (by omega)) nin0))))).keep KB (ninS (ne_i (by omega)) (ninS (ne_i (by omega)) (ninS (ne_i (by omega)) (ninS (ne_i (by omega)) nin0)))))
          have fx8 := (((Aib.keep KI (ninS (ne_i (by omega)) nin0)).keep KA (ninS (ne_i (by omega)) (ninS (ne_i (by omega)) (ninS (ne_i (by omega)) (ninS (ne_i (by omega)) nin0))))).keep KB (ninS (ne_i (by omega)) (ninS (ne_i (by omega)) (ninS (ne_i (by omega)) (ninS (ne_i (by omega)) nin0)))))
          exact law_end1 l Z a0 hw (J := (1 : Int32)) (i0 := 1) O4 S2 o' Apg2 qpg rfl (by decide) (by decide) (by decide) (by decide) rfl fx7 fx8 be5 be6 be7 nia nib U0 V0 U1 V1 U2 V2 U3 V3 p e s m below meth cd C _ _ (by decide) (by decide)
      · refine go_icmpYes C (pc' := 317) at_303 (feq ef1).2 (by decide) (by decide) ?_
        refine go_iconst C (pc' := 318) at_317 (z := (0 : Int32)) (by decide) rfl ?_
        refine go_istore C (pc' := 320) at_318 (Ls' := #[(.val (.int c2)), (.val (.int x1)), (.val (.long x2)), .second, (.val (.long x3)), .second, (.val (.int x4)), (.val (.int l0)), (.val (.int u0)), (.val (.long spn)), .second, (.val (.int c0)), (.val (.int d0)), (.val (.int c1)), (.val (.int d1)), (.val (.int c3)), (.val (.int d3)), (.val (.int kd)), (.val (.ref al)), (.val (.ref ah)), (.val (.ref ca)), (.val (.ref cb)), (.val (.ref ia)), (.val (.ref ib)), (.val (.ref b)), (.val (.int (0 : Int32))), (.val (.int (1 : Int32))), (.val (.int (0 : Int32))), .unset, .unset]) rfl rfl ?_
        refine go_iload C (pc' := 322) at_320 rfl rfl ?_
        refine go_ifYes C (pc' := 327) at_322 (by decide) (by decide) (by decide) ?_
        refine go_iload C (pc' := 329) at_327 rfl rfl ?_
        refine go_iload C (pc' := 331) at_329 rfl rfl ?_
        refine go_ifYes C (pc' := 338) at_331 (by decide) (by decide) (by decide) ?_
        refine go_iconst C (pc' := 339) at_338 (z := (1 : Int32)) (by decide) rfl ?_
        refine go_icmpYes C (pc' := 344) at_339 (by decide) (by decide) (by decide) ?_
        have fx9 := (((Aia.keep KI (ninS (ne_i (by omega)) nin0)).keep KA (ninS (ne_i (by omega)) (ninS (ne_i (by omega)) (ninS (ne_i (by omega)) (ninS (ne_i (by omega)) nin0))))).keep KB (ninS (ne_i (by omega)) (ninS (ne_i (by omega)) (ninS (ne_i (by omega)) (ninS (ne_i (by omega)) nin0)))))
        have fx10 := (((Aib.keep KI (ninS (ne_i (by omega)) nin0)).keep KA (ninS (ne_i (by omega)) (ninS (ne_i (by omega)) (ninS (ne_i (by omega)) (ninS (ne_i (by omega)) nin0))))).keep KB (ninS (ne_i (by omega)) (ninS (ne_i (by omega)) (ninS (ne_i (by omega)) (ninS (ne_i (by omega)) nin0)))))
        exact law_end1 l Z a0 hw (J := (1 : Int32)) (i0 := 1) O4 S2 o' Apg2 qpg rfl (by decide) (by decide) (by decide) (by decide) rfl fx9 fx10 be5 be6 be7 nia nib U0 V0 U1 V1 U2 V2 U3 V3 p e s m below meth cd C _ _ (by decide) (by decide)
    · refine go_icmpYes C (pc' := 317) at_296 (feq ef0).2 (by decide) (by decide) ?_
      refine go_iconst C (pc' := 318) at_317 (z := (0 : Int32)) (by decide) rfl ?_
      refine go_istore C (pc' := 320) at_318 (Ls' := #[(.val (.int c2)), (.val (.int x1)), (.val (.long x2)), .second, (.val (.long x3)), .second, (.val (.int x4)), (.val (.int l0)), (.val (.int u0)), (.val (.long spn)), .second, (.val (.int c0)), (.val (.int d0)), (.val (.int c1)), (.val (.int d1)), (.val (.int c3)), (.val (.int d3)), (.val (.int kd)), (.val (.ref al)), (.val (.ref ah)), (.val (.ref ca)), (.val (.ref cb)), (.val (.ref ia)), (.val (.ref ib)), (.val (.ref b)), (.val (.int (0 : Int32))), (.val (.int (1 : Int32))), (.val (.int (0 : Int32))), .unset, .unset]) rfl rfl ?_
      refine go_iload C (pc' := 322) at_320 rfl rfl ?_
      refine go_ifYes C (pc' := 327) at_322 (by decide) (by decide) (by decide) ?_
      refine go_iload C (pc' := 329) at_327 rfl rfl ?_
      refine go_iload C (pc' := 331) at_329 rfl rfl ?_
      refine go_ifYes C (pc' := 338) at_331 (by decide) (by decide) (by decide) ?_
      refine go_iconst C (pc' := 339) at_338 (z := (1 : Int32)) (by decide) rfl ?_
      refine go_icmpYes C (pc' := 344) at_339 (by decide) (by decide) (by decide) ?_
      have fx11 := (((Aia.keep KI (ninS (ne_i (by omega)) nin0)).keep KA (ninS (ne_i (by omega)) (ninS (ne_i (by omega)) (ninS (ne_i (by omega)) (ninS (ne_i (by omega)) nin0))))).keep KB (ninS (ne_i (by omega)) (ninS (ne_i (by omega)) (ninS (ne_i (by omega)) (ninS (ne_i (by omega)) nin0)))))
      have fx12 := (((Aib.keep KI (ninS (ne_i (by omega)) nin0)).keep KA (ninS (ne_i (by omega)) (ninS (ne_i (by omega)) (ninS (ne_i (by omega)) (ninS (ne_i (by omega)) nin0))))).keep KB (ninS (ne_i (by omega)) (ninS (ne_i (by omega)) (ninS (ne_i (by omega)) (ninS (ne_i (by omega)) nin0)))))
      exact law_end1 l Z a0 hw (J := (1 : Int32)) (i0 := 1) O4 S2 o' Apg2 qpg rfl (by decide) (by decide) (by decide) (by decide) rfl fx11 fx12 be5 be6 be7 nia nib U0 V0 U1 V1 U2 V2 U3 V3 p e s m below meth cd C _ _ (by decide) (by decide)
set_option maxRecDepth 65536 in
set_option maxHeartbeats 40000000 in
theorem law_end2 (l : Launch) (Z : State) (a0 : Array Value) (hw : ∀ d ∈ tables_1, d.before a0 Z = true) {b pgs tb lo hi sh mk fi km pk : Nat} {kpgs ktb klo khi ksh kmk kfi kkm kpk : ClassId} {l0 u0 l1 u1 l2 u2 l3 u3 s1 s2 : Int32} {m0 m1 m2 m3 KM0 KM1 : Int64} {pg al ah ca cb ia ib i0 i1 : Nat} {kpg kia kib : ClassId} {sz j J sm x1 x4 c0 c1 c2 c3 d0 d1 d3 kd f0 g0 f1 g1 f2 g2 f3 g3 : Int32} {x2 x3 spn p0 q0 t0 p1 q1 t1 : Int64} {vt vg : List Value} {h : Heap} (O : Old Z Z.heap.size h) (S : Sto Z h b pgs tb lo hi sh mk fi km pk kpgs ktb klo khi ksh kmk kfi kkm kpk (2 : Int32) (19 : Int32) sz [(.ref pg)] vt [(.int l0), (.int l1), (.int l2), (.int l3)] [(.int u0), (.int u1), (.int u2), (.int u3)] [(.int (0 : Int32)), (.int s1), (.int s2), (.int (0 : Int32))] [(.long m0), (.long m1), (.long m2), (.long m3)] [(.int (0 : Int32)), (.int (3 : Int32)), (.int (4 : Int32))] [(.long KM0), (.long KM1)] [(.long p0), (.long p1)]) (o : Ord Z.heap.size b pgs tb lo hi sh mk fi km pk) (Apg : Ar Z h pg .long kpg vg) (qpg : pk < pg) (hp0 : vg[0]? = some (.long q0)) (hp1 : vg[1]? = some (.long q1)) (hj1 : ((j).toUInt32 >>> ((19 : Int32) &&& 31).toUInt32).toInt32 = 0) (hj2 : ((j &&& (524287 : Int32)) * (2 : Int32)) = J) (hn0 : ¬ (J + (0 : Int32)) < 0) (hi0 : (J + (0 : Int32)).toNatClampNeg = i0) (hr0 : vg[i0]? = some (.long t0)) (hn1 : ¬ (J + (1 : Int32)) < 0) (hi1 : (J + (1 : Int32)).toNatClampNeg = i1) (hr1 : vg[i1]? = some (.long t1)) (Aia : Ar Z h ia .int kia [(.int f0), (.int f1), (.int f2), (.int f3), (.int x4)]) (Aib : Ar Z h ib .int kib [(.int g0), (.int g1), (.int g2), (.int g3), (.int x4)]) (be5 : ia < b) (be6 : ib < b) (be7 : ia < ib) (nia : Z.heap.size ≤ ia) (nib : Z.heap.size ≤ ib) (U0 : un q0 (0 : Int32) m0 l0 = c0) (V0 : un t0 (0 : Int32) m0 l0 = d0) (U1 : un q0 s1 m1 l1 = c1) (V1 : un t0 s1 m1 l1 = d1) (U2 : un q0 s2 m2 l2 = c2) (V2 : un t0 s2 m2 l2 = c2) (U3 : un q1 (0 : Int32) m3 l3 = c3) (V3 : un t1 (0 : Int32) m3 l3 = d3) (p : Program) (e : Env) (s : State) (m : MethodId) (below : List Frame) (meth : Method) (cd : Code) (C : Ctx p s m meth cd Z x code maxLocals ret) (cs sl : Nat) (hcs : cs ≤ room_1.cells) (hsl : sl ≤ room_1.slots) :
    Go p l e room_1 s m #[(.int c2), (.int x1), (.long x2), (.long x3), (.int x4)] below meth cd Z Z.heap.size (fun v _ => v = some (.int (1 : Int32))) room_1.cells room_1.slots h cs sl (mkF m 344 #[(.val (.int c2)), (.val (.int x1)), (.val (.long x2)), .second, (.val (.long x3)), .second, (.val (.int x4)), (.val (.int l0)), (.val (.int u0)), (.val (.long spn)), .second, (.val (.int c0)), (.val (.int d0)), (.val (.int c1)), (.val (.int d1)), (.val (.int c3)), (.val (.int d3)), (.val (.int kd)), (.val (.ref al)), (.val (.ref ah)), (.val (.ref ca)), (.val (.ref cb)), (.val (.ref ia)), (.val (.ref ib)), (.val (.ref b)), (.val (.int (0 : Int32))), (.val (.int j)), (.val (.int sm)), .unset, .unset] []) := by
  have o' := o
  obtain ⟨o0, o1, o2, o3, o4, o5, o6, o7, o8, o9⟩ := o
  refine go_aload C (pc' := 346) at_344 rfl rfl rfl ?_
  refine go_callV C (pc' := 349) (y' := site_346) (wd_119 hw) (wd_120 hw) (wd_122 hw) (wd_121 hw) (shut2_met l Z a0 hw _ _ O S o') (wd_123 hw) (wd_13 hw) (by decide) (by decide) (W := 0) (Nat.le_of_ble_eq_true rfl) (by decide) hcs hsl rfl S.1 (argsL := []) (rest := []) pd_10 rfl rfl rfl at_346 rfl ?_
  rintro _ h1 ⟨rfl, S1, K1⟩
  refine go_st (st' := []) rfl ?_
  refine go_old fun O1 => ?_
  refine go_aload C (pc' := 351) at_349 rfl rfl rfl ?_
  refine go_iload C (pc' := 353) at_351 rfl rfl ?_
  refine go_aload C (pc' := 355) at_353 rfl rfl rfl ?_
  refine go_callV C (pc' := 358) (y' := (⟨"com/example/invariant/invariant/check/ConfigurationStore", "copy", "(I[I)V"⟩ : MethodName)) (wd_124 hw) (wd_125 hw) (wd_127 hw) (wd_126 hw) (copy2_met l Z a0 hw _ _ O1 (J := (0 : Int32)) (i0 := 0) (i1 := 1) ⟨S1.1, S1.2.1, S1.2.2.1, S1.2.2.2.1, S1.2.2.2.2.1, S1.2.2.2.2.2.1, S1.2.2.2.2.2.2.1, S1.2.2.2.2.2.2.2.1, S1.2.2.2.2.2.2.2.2.1, S1.2.2.2.2.2.2.2.2.2.1, S1.2.2.2.2.2.2.2.2.2.2.1, S1.2.2.2.2.2.2.2.2.2.2.2.1, S1.2.2.2.2.2.2.2.2.2.2.2.2.1, S1.2.2.2.2.2.2.2.2.2.2.2.2.2.1, S1.2.2.2.2.2.2.2.2.2.2.2.2.2.2.1, S1.2.2.2.2.2.2.2.2.2.2.2.2.2.2.2.1, S1.2.2.2.2.2.2.2.2.2.2.2.2.2.2.2.2.1, S1.2.2.2.2.2.2.2.2.2.2.2.2.2.2.2.2.2.1, S1.2.2.2.2.2.2.2.2.2.2.2.2.2.2.2.2.2.2.1, S1.2.2.2.2.2.2.2.2.2.2.2.2.2.2.2.2.2.2.2⟩ o' be5 nia (Apg.keep K1 (ninS (ne_i (by omega)) nin0)) qpg (by decide) (by decide) (by decide) (by decide) hp0 (by decide) (by decide) hp1 (Aia.keep K1 (ninS (ne_i (by omega)) nin0))) (wd_128 hw) (wd_13 hw) (by decide) (by decide) (W := 0) (Nat.le_of_ble_eq_true rfl) (by decide) hcs hsl rfl S1.1 (argsL := [(.int (0 : Int32)), (.ref ia)]) (rest := []) pd_11 rfl rfl rfl at_355 rfl ?_
  rintro _ h2 ⟨rfl, Bia, Kia⟩
  refine go_st (st' := []) rfl ?_
  refine go_old fun O2 => ?_
  rw [U0, U1, U2, U3] at Bia
  refine go_aload C (pc' := 360) at_358 rfl rfl rfl ?_
  refine go_iload C (pc' := 362) at_360 rfl rfl ?_
  refine go_aload C (pc' := 364) at_362 rfl rfl rfl ?_
  have fx3 := (S1.2.2.2.2.2.2.2.2.2.2.2.2.2.1.keep Kia (ninS (ne_i (by omega)) nin0))
  have fx4 := (S1.2.2.2.2.2.2.2.2.2.2.2.2.2.2.1.keep Kia (ninS (ne_i (by omega)) nin0))
  have fx5 := (S1.2.2.2.2.2.2.2.2.2.2.2.2.2.2.2.1.keep Kia (ninS (ne_i (by omega)) nin0))
  have fx6 := (S1.2.2.2.2.2.2.2.2.2.2.2.2.2.2.2.2.1.keep Kia (ninS (ne_i (by omega)) nin0))
  have fx7 := (S1.2.2.2.2.2.2.2.2.2.2.2.2.2.2.2.2.2.1.keep Kia (ninS (ne_i (by omega)) nin0))
  have fx8 := (S1.2.2.2.2.2.2.2.2.2.2.2.2.2.2.2.2.2.2.1.keep Kia (ninS (ne_i (by omega)) nin0))
  have fx9 := (S1.2.2.2.2.2.2.2.2.2.2.2.2.2.2.2.2.2.2.2.keep Kia (ninS (ne_i (by omega)) nin0))
  have fx10 := ((Apg.keep K1 (ninS (ne_i (by omega)) nin0)).keep Kia (ninS (ne_i (by omega)) nin0))
  have fx11 := ((Aib.keep K1 (ninS (ne_i (by omega)) nin0)).keep Kia (ninS (ne_i (by omega)) nin0))
  refine go_callV C (pc' := 367) (y' := (⟨"com/example/invariant/invariant/check/ConfigurationStore", "copy", "(I[I)V"⟩ : MethodName)) (wd_124 hw) (wd_125 hw) (wd_127 hw) (wd_126 hw) (copy2_met l Z a0 hw _ _ O2 ⟨(S1.1.keep Kia), (S1.2.1.keep Kia (ninS (ne_i (by omega)) nin0)), (S1.2.2.1.keep Kia (ninS (ne_i (by omega)) nin0)), (S1.2.2.2.1.keep Kia (ninS (ne_i (by omega)) nin0)), (S1.2.2.2.2.1.keep Kia (ninS (ne_i (by omega)) nin0)), (S1.2.2.2.2.2.1.keep Kia (ninS (ne_i (by omega)) nin0)), (S1.2.2.2.2.2.2.1.keep Kia (ninS (ne_i (by omega)) nin0)), (S1.2.2.2.2.2.2.2.1.keep Kia (ninS (ne_i (by omega)) nin0)), (S1.2.2.2.2.2.2.2.2.1.keep Kia (ninS (ne_i (by omega)) nin0)), (S1.2.2.2.2.2.2.2.2.2.1.keep Kia (ninS (ne_i (by omega)) nin0)), (S1.2.2.2.2.2.2.2.2.2.2.1.keep Kia (ninS (ne_i (by omega)) nin0)), (S1.2.2.2.2.2.2.2.2.2.2.2.1.keep Kia (ninS (ne_i (by omega)) nin0)), (S1.2.2.2.2.2.2.2.2.2.2.2.2.1.keep Kia (ninS (ne_i (by omega)) nin0)), fx3, fx4, fx5, fx6, fx7, fx8, fx9⟩ o' be6 nib fx10 qpg hj1 hj2 hn0 hi0 hr0 hn1 hi1 hr1 fx11) (wd_128 hw) (wd_13 hw) (by decide) (by decide) (W := 0) (Nat.le_of_ble_eq_true rfl) (by decide) hcs hsl rfl (S1.1.keep Kia) (argsL := [(.int j), (.ref ib)]) (rest := []) pd_11 rfl rfl rfl at_364 rfl ?_
  rintro _ h12 ⟨rfl, Bib, Kib⟩
  refine go_st (st' := []) rfl ?_
  refine go_old fun O12 => ?_
  rw [V0, V1, V2, V3] at Bib
  refine go_aload C (pc' := 369) at_367 rfl rfl rfl ?_
  refine go_iconst C (pc' := 370) at_369 (z := (0 : Int32)) (by decide) rfl ?_
  refine go_iaget C (pc' := 371) (Bia.keep Kib (ninS (ne_i (by omega)) nin0)) (by decide) (i := 0) (by decide) rfl at_370 rfl ?_
  refine go_iload C (pc' := 373) at_371 rfl rfl ?_
  refine go_icmpNo C (pc' := 376) at_373 (teq rfl).2 rfl ?_
  refine go_aload C (pc' := 378) at_376 rfl rfl rfl ?_
  refine go_iconst C (pc' := 379) at_378 (z := (1 : Int32)) (by decide) rfl ?_
  refine go_iaget C (pc' := 380) (Bia.keep Kib (ninS (ne_i (by omega)) nin0)) (by decide) (i := 1) (by decide) rfl at_379 rfl ?_
  refine go_iload C (pc' := 382) at_380 rfl rfl ?_
  refine go_icmpNo C (pc' := 385) at_382 (teq rfl).2 rfl ?_
  refine go_aload C (pc' := 387) at_385 rfl rfl rfl ?_
  refine go_iconst C (pc' := 388) at_387 (z := (2 : Int32)) (by decide) rfl ?_
  refine go_iaget C (pc' := 389) (Bia.keep Kib (ninS (ne_i (by omega)) nin0)) (by decide) (i := 2) (by decide) rfl at_388 rfl ?_
  refine go_iloadN C (pc' := 390) at_389 rfl rfl ?_
  refine go_icmpNo C (pc' := 393) at_390 (teq rfl).2 rfl ?_
  refine go_aload C (pc' := 395) at_393 rfl rfl rfl ?_
  refine go_iconst C (pc' := 396) at_395 (z := (3 : Int32)) (by decide) rfl ?_
  refine go_iaget C (pc' := 397) (Bia.keep Kib (ninS (ne_i (by omega)) nin0)) (by decide) (i := 3) (by decide) rfl at_396 rfl ?_
  refine go_iload C (pc' := 399) at_397 rfl rfl ?_
  refine go_icmpNo C (pc' := 402) at_399 (teq rfl).2 rfl ?_
  refine go_aload C (pc' := 404) at_402 rfl rfl rfl ?_
  refine go_iconst C (pc' := 405) at_404 (z := (4 : Int32)) (by decide) rfl ?_
  refine go_iaget C (pc' := 406) (Bia.keep Kib (ninS (ne_i (by omega)) nin0)) (by decide) (i := 4) (by decide) rfl at_405 rfl ?_
  refine go_iload C (pc' := 408) at_406 rfl rfl ?_
  refine go_icmpNo C (pc' := 411) at_408 (teq rfl).2 rfl ?_
  refine go_iconst C (pc' := 412) at_411 (z := (1 : Int32)) (by decide) rfl ?_
  refine go_goto C (pc' := 416) at_412 (by decide) (by decide) ?_
  refine go_istore C (pc' := 418) at_416 (Ls' := #[(.val (.int c2)), (.val (.int x1)), (.val (.long x2)), .second, (.val (.long x3)), .second, (.val (.int x4)), (.val (.int l0)), (.val (.int u0)), (.val (.long spn)), .second, (.val (.int c0)), (.val (.int d0)), (.val (.int c1)), (.val (.int d1)), (.val (.int c3)), (.val (.int d3)), (.val (.int kd)), (.val (.ref al)), (.val (.ref ah)), (.val (.ref ca)), (.val (.ref cb)), (.val (.ref ia)), (.val (.ref ib)), (.val (.ref b)), (.val (.int (0 : Int32))), (.val (.int j)), (.val (.int sm)), (.val (.int (1 : Int32))), .unset]) rfl rfl ?_
  refine go_aload C (pc' := 420) at_418 rfl rfl rfl ?_
  refine go_iconst C (pc' := 421) at_420 (z := (0 : Int32)) (by decide) rfl ?_
  refine go_iaget C (pc' := 422) Bib (by decide) (i := 0) (by decide) rfl at_421 rfl ?_
  refine go_iload C (pc' := 424) at_422 rfl rfl ?_
  refine go_icmpNo C (pc' := 427) at_424 (teq rfl).2 rfl ?_
  refine go_aload C (pc' := 429) at_427 rfl rfl rfl ?_
  refine go_iconst C (pc' := 430) at_429 (z := (1 : Int32)) (by decide) rfl ?_
  refine go_iaget C (pc' := 431) Bib (by decide) (i := 1) (by decide) rfl at_430 rfl ?_
  refine go_iload C (pc' := 433) at_431 rfl rfl ?_
  refine go_icmpNo C (pc' := 436) at_433 (teq rfl).2 rfl ?_
  refine go_aload C (pc' := 438) at_436 rfl rfl rfl ?_
  refine go_iconst C (pc' := 439) at_438 (z := (2 : Int32)) (by decide) rfl ?_
  refine go_iaget C (pc' := 440) Bib (by decide) (i := 2) (by decide) rfl at_439 rfl ?_
  refine go_iloadN C (pc' := 441) at_440 rfl rfl ?_
  refine go_icmpNo C (pc' := 444) at_441 (teq rfl).2 rfl ?_
  refine go_aload C (pc' := 446) at_444 rfl rfl rfl ?_
  refine go_iconst C (pc' := 447) at_446 (z := (3 : Int32)) (by decide) rfl ?_
  refine go_iaget C (pc' := 448) Bib (by decide) (i := 3) (by decide) rfl at_447 rfl ?_
  refine go_iload C (pc' := 450) at_448 rfl rfl ?_
  refine go_icmpNo C (pc' := 453) at_450 (teq rfl).2 rfl ?_
  refine go_aload C (pc' := 455) at_453 rfl rfl rfl ?_
  refine go_iconst C (pc' := 456) at_455 (z := (4 : Int32)) (by decide) rfl ?_
  refine go_iaget C (pc' := 457) Bib (by decide) (i := 4) (by decide) rfl at_456 rfl ?_
  refine go_iload C (pc' := 459) at_457 rfl rfl ?_
  refine go_icmpNo C (pc' := 462) at_459 (teq rfl).2 rfl ?_
  refine go_iconst C (pc' := 463) at_462 (z := (1 : Int32)) (by decide) rfl ?_
  refine go_goto C (pc' := 467) at_463 (by decide) (by decide) ?_
  refine go_istore C (pc' := 469) at_467 (Ls' := #[(.val (.int c2)), (.val (.int x1)), (.val (.long x2)), .second, (.val (.long x3)), .second, (.val (.int x4)), (.val (.int l0)), (.val (.int u0)), (.val (.long spn)), .second, (.val (.int c0)), (.val (.int d0)), (.val (.int c1)), (.val (.int d1)), (.val (.int c3)), (.val (.int d3)), (.val (.int kd)), (.val (.ref al)), (.val (.ref ah)), (.val (.ref ca)), (.val (.ref cb)), (.val (.ref ia)), (.val (.ref ib)), (.val (.ref b)), (.val (.int (0 : Int32))), (.val (.int j)), (.val (.int sm)), (.val (.int (1 : Int32))), (.val (.int (1 : Int32)))]) rfl rfl ?_
  refine go_iload C (pc' := 471) at_469 rfl rfl ?_
  refine go_ifNo C (pc' := 474) at_471 (by decide) rfl ?_
  refine go_iload C (pc' := 476) at_474 rfl rfl ?_
  refine go_ifNo C (pc' := 479) at_476 (by decide) rfl ?_
  refine go_iconst C (pc' := 480) at_479 (z := (1 : Int32)) (by decide) rfl ?_
  refine go_goto C (pc' := 484) at_480 (by decide) (by decide) ?_
  exact go_retN C (by simp) (z' := (1 : Int32)) (by decide) at_484 hcs hsl rfl
set_option maxRecDepth 65536 in
set_option maxHeartbeats 40000000 in
theorem law_tail2 (l : Launch) (Z : State) (a0 : Array Value) (hw : ∀ d ∈ tables_1, d.before a0 Z = true) (x1 x4 kd : Int32) (x2 x3 spn : Int64) (b al ah ca cb ia ib : Nat) (kal kah kca kcb kia kib : ClassId) (hk : kd = 0 ∨ kd = 1 ∨ kd = 2 ∨ kd = 3 ∨ kd = 4) (l0 u0 w0 l1 u1 w1 l2 u2 w2 l3 u3 w3 s1 s2 s3 : Int32) (m0 m1 m2 m3 : Int64) (hz0 : (((u0).toInt64 - (l0).toInt64).toUInt64 >>> ((32 : Int32) &&& 0x3f).toInt64.toUInt64).toInt64.toInt32 = 0) (hb0 : ((64 : Int32) - ((32 : Int32) + (nlI ((u0).toInt64 - (l0).toInt64).toInt32))) = w0) (hm0 : (((1 : Int64) <<< (w0 &&& 0x3f).toInt64) - (1 : Int64)) = m0) (hs1 : ((0 : Int32) + w0) = s1) (hc0 : ¬ (64 : Int32) < s1) (hz1 : (((u1).toInt64 - (l1).toInt64).toUInt64 >>> ((32 : Int32) &&& 0x3f).toInt64.toUInt64).toInt64.toInt32 = 0) (hb1 : ((64 : Int32) - ((32 : Int32) + (nlI ((u1).toInt64 - (l1).toInt64).toInt32))) = w1) (hm1 : (((1 : Int64) <<< (w1 &&& 0x3f).toInt64) - (1 : Int64)) = m1) (hs2 : (s1 + w1) = s2) (hc1 : ¬ (64 : Int32) < s2) (hz2 : (((u2).toInt64 - (l2).toInt64).toUInt64 >>> ((32 : Int32) &&& 0x3f).toInt64.toUInt64).toInt64.toInt32 = 0) (hb2 : ((64 : Int32) - ((32 : Int32) + (nlI ((u2).toInt64 - (l2).toInt64).toInt32))) = w2) (hm2 : (((1 : Int64) <<< (w2 &&& 0x3f).toInt64) - (1 : Int64)) = m2) (hs3 : (s2 + w2) = s3) (hc2 : ¬ (64 : Int32) < s3) (hz3 : (((u3).toInt64 - (l3).toInt64).toUInt64 >>> ((32 : Int32) &&& 0x3f).toInt64.toUInt64).toInt64.toInt32 = 0) (hb3 : ((64 : Int32) - ((32 : Int32) + (nlI ((u3).toInt64 - (l3).toInt64).toInt32))) = w3) (hm3 : (((1 : Int64) <<< (w3 &&& 0x3f).toInt64) - (1 : Int64)) = m3) (hc3 : (64 : Int32) < (s3 + w3)) (c0 c1 c2 c3 d0 d1 d3 f0 g0 f1 g1 f2 g2 f3 g3 : Int32) (q0 r0 q1 r1 : Int64) (hl0 : ¬ c0 < l0) (hu0 : ¬ u0 < c0) (hl1 : ¬ c1 < l1) (hu1 : ¬ u1 < c1) (hl2 : ¬ c2 < l2) (hu2 : ¬ u2 < c2) (hl3 : ¬ c3 < l3) (hu3 : ¬ u3 < c3) (gl0 : ¬ d0 < l0) (gu0 : ¬ u0 < d0) (gl1 : ¬ d1 < l1) (gu1 : ¬ u1 < d1) (gl2 : ¬ c2 < l2) (gu2 : ¬ u2 < c2) (gl3 : ¬ d3 < l3) (gu3 : ¬ u3 < d3) (hP0 : ((((0 : Int64) ||| (pt c0 l0 (0 : Int32))) ||| (pt c1 l1 s1)) ||| (pt c2 l2 s2)) = q0) (hR0 : ((((0 : Int64) ||| (pt d0 l0 (0 : Int32))) ||| (pt d1 l1 s1)) ||| (pt c2 l2 s2)) = r0) (hP1 : ((0 : Int64) ||| (pt c3 l3 (0 : Int32))) = q1) (hR1 : ((0 : Int64) ||| (pt d3 l3 (0 : Int32))) = r1) (U0 : un q0 (0 : Int32) m0 l0 = c0) (V0 : un r0 (0 : Int32) m0 l0 = d0) (U1 : un q0 s1 m1 l1 = c1) (V1 : un r0 s1 m1 l1 = d1) (U2 : un q0 s2 m2 l2 = c2) (V2 : un r0 s2 m2 l2 = c2) (U3 : un q1 (0 : Int32) m3 l3 = c3) (V3 : un r1 (0 : Int32) m3 l3 = d3) (h : Heap) (O : Old Z Z.heap.size h) (Aal : Ar Z h al .int kal [(.int l0), (.int l1), (.int l2), (.int l3)]) (Aah : Ar Z h ah .int kah [(.int u0), (.int u1), (.int u2), (.int u3)]) (Aca : Ar Z h ca .int kca [(.int c0), (.int c1), (.int c2), (.int c3)]) (Acb : Ar Z h cb .int kcb [(.int d0), (.int d1), (.int c2), (.int d3)]) (Aia : Ar Z h ia .int kia [(.int f0), (.int f1), (.int f2), (.int f3), (.int x4)]) (Aib : Ar Z h ib .int kib [(.int g0), (.int g1), (.int g2), (.int g3), (.int x4)]) (Eal : Exa Z h al "[I") (Eah : Exa Z h ah "[I") (E_b : Exa Z h b "com/example/invariant/invariant/check/ConfigurationStore") (F_b_low : Fld Z h b "com/example/invariant/invariant/check/ConfigurationStore" "low" "[I" .null) (F_b_high : Fld Z h b "com/example/invariant/invariant/check/ConfigurationStore" "high" "[I" .null) (F_b_firstInt : Fld Z h b "com/example/invariant/invariant/check/ConfigurationStore" "firstInt" "[I" .null) (F_b_words : Fld Z h b "com/example/invariant/invariant/check/ConfigurationStore" "words" "I" (.int (0 : Int32))) (F_b_shift : Fld Z h b "com/example/invariant/invariant/check/ConfigurationStore" "shift" "[I" .null) (F_b_mask : Fld Z h b "com/example/invariant/invariant/check/ConfigurationStore" "mask" "[J" .null) (F_b_keyMask : Fld Z h b "com/example/invariant/invariant/check/ConfigurationStore" "keyMask" "[J" .null) (F_b_pageShift : Fld Z h b "com/example/invariant/invariant/check/ConfigurationStore" "pageShift" "I" (.int (0 : Int32))) (F_b_pages : Fld Z h b "com/example/invariant/invariant/check/ConfigurationStore" "pages" "[[J" .null) (F_b_size : Fld Z h b "com/example/invariant/invariant/check/ConfigurationStore" "size" "I" (.int (0 : Int32))) (F_b_table : Fld Z h b "com/example/invariant/invariant/check/ConfigurationStore" "table" "[J" .null) (F_b_packed : Fld Z h b "com/example/invariant/invariant/check/ConfigurationStore" "packed" "[J" .null) (nb : Z.heap.size ≤ b) (be1 : al < b) (be2 : ah < b) (be3 : ca < b) (be4 : cb < b) (be5 : ia < b) (be6 : ib < b) (be7 : ia < ib) (nia : Z.heap.size ≤ ia) (nib : Z.heap.size ≤ ib) (p : Program) (e : Env) (s : State) (m : MethodId) (below : List Frame) (meth : Method) (cd : Code) (C : Ctx p s m meth cd Z x code maxLocals ret) :
    Go p l e room_1 s m #[(.int c2), (.int x1), (.long x2), (.long x3), (.int x4)] below meth cd Z Z.heap.size (fun v _ => v = some (.int (1 : Int32))) room_1.cells room_1.slots h 7 38 (mkF m 269 #[(.val (.int c2)), (.val (.int x1)), (.val (.long x2)), .second, (.val (.long x3)), .second, (.val (.int x4)), (.val (.int l0)), (.val (.int u0)), (.val (.long spn)), .second, (.val (.int c0)), (.val (.int d0)), (.val (.int c1)), (.val (.int d1)), (.val (.int c3)), (.val (.int d3)), (.val (.int kd)), (.val (.ref al)), (.val (.ref ah)), (.val (.ref ca)), (.val (.ref cb)), (.val (.ref ia)), (.val (.ref ib)), .unset, .unset, .unset, .unset, .unset, .unset] [(.int kd), (.ref ah), (.ref al), (.ref b), (.ref b)]) := by
  refine go_callC C (pc' := 272) (y' := (⟨"com/example/invariant/invariant/check/ConfigurationStore", "<init>", "([I[II)V"⟩ : MethodName)) (wd_14 hw) (wd_15 hw) rfl rfl (init2_met l Z a0 hw _ _ O b al ah kal kah kd hk l0 u0 w0 l1 u1 w1 l2 u2 w2 l3 u3 w3 s1 s2 s3 m0 m1 m2 m3 hz0 hb0 hm0 hs1 hc0 hz1 hb1 hm1 hs2 hc1 hz2 hb2 hm2 hs3 hc2 hz3 hb3 hm3 hc3 Aal Aah Eal Eah E_b F_b_low F_b_high F_b_firstInt F_b_words F_b_shift F_b_mask F_b_keyMask F_b_pageShift F_b_pages F_b_size F_b_table F_b_packed nb be1 be2) (wd_16 hw) (wd_13 hw) (by decide) (by decide) (W := 1) (Nat.le_of_ble_eq_true rfl) (by decide) (by decide) (by decide) rfl (a := b) (argsL := [(.ref al), (.ref ah), (.int kd)]) (rest := [(.ref b)]) pd_12 rfl rfl rfl at_269 rfl ?_
  rintro _ h1 ⟨rfl, pgs, tb, lo, hi, sh, mk, fi, km, pk, kpgs, ktb, klo, khi, ksh, kmk, kfi, kkm, kpk, KM0, KM1, S0, o, KI⟩
  refine go_st (st' := [(.ref b)]) rfl ?_
  refine go_old fun O1 => ?_
  have o' := o
  obtain ⟨o0, o1, o2, o3, o4, o5, o6, o7, o8, o9⟩ := o
  refine go_astore C (pc' := 274) at_272 rfl (Ls' := #[(.val (.int c2)), (.val (.int x1)), (.val (.long x2)), .second, (.val (.long x3)), .second, (.val (.int x4)), (.val (.int l0)), (.val (.int u0)), (.val (.long spn)), .second, (.val (.int c0)), (.val (.int d0)), (.val (.int c1)), (.val (.int d1)), (.val (.int c3)), (.val (.int d3)), (.val (.int kd)), (.val (.ref al)), (.val (.ref ah)), (.val (.ref ca)), (.val (.ref cb)), (.val (.ref ia)), (.val (.ref ib)), (.val (.ref b)), .unset, .unset, .unset, .unset, .unset]) rfl rfl ?_
  refine go_aload C (pc' := 276) at_274 rfl rfl rfl ?_
  refine go_aload C (pc' := 278) at_276 rfl rfl rfl ?_
  refine go_callV C (pc' := 281) (y' := (⟨"com/example/invariant/invariant/check/ConfigurationStore", "add", "([I)I"⟩ : MethodName)) (wd_75 hw) (wd_76 hw) (wd_78 hw) (wd_77 hw) (add2_0_met l Z a0 hw _ _ O1 S0 o' (Aca.keep KI (ninS (ne_i (by omega)) nin0)) be3 hl0 hu0 hl1 hu1 hl2 hu2 hl3 hu3 hP0 hP1 rfl T0.rep) (wd_79 hw) (wd_13 hw) (by decide) (by decide) (W := 0) (Nat.le_of_ble_eq_true rfl) (by decide) (by decide) (by decide) rfl S0.1 (argsL := [(.ref ca)]) (rest := []) pd_5 rfl rfl rfl at_278 rfl ?_
  rintro _ h2 ⟨rfl, pg, kpg, vt1, T1x, qpg, S1, Apg, KA⟩
  refine go_st (st' := [(.int (0 : Int32))]) rfl ?_
  refine go_old fun O2 => ?_
  refine go_istore C (pc' := 283) at_281 (Ls' := #[(.val (.int c2)), (.val (.int x1)), (.val (.long x2)), .second, (.val (.long x3)), .second, (.val (.int x4)), (.val (.int l0)), (.val (.int u0)), (.val (.long spn)), .second, (.val (.int c0)), (.val (.int d0)), (.val (.int c1)), (.val (.int d1)), (.val (.int c3)), (.val (.int d3)), (.val (.int kd)), (.val (.ref al)), (.val (.ref ah)), (.val (.ref ca)), (.val (.ref cb)), (.val (.ref ia)), (.val (.ref ib)), (.val (.ref b)), (.val (.int (0 : Int32))), .unset, .unset, .unset, .unset]) rfl rfl ?_
  refine go_aload C (pc' := 285) at_283 rfl rfl rfl ?_
  refine go_aload C (pc' := 287) at_285 rfl rfl rfl ?_
  have fx3 := ((Acb.keep KI (ninS (ne_i (by omega)) nin0)).keep KA (ninS (ne_i (by omega)) (ninS (ne_i (by omega)) (ninS (ne_i (by omega)) (ninS (ne_i (by omega)) nin0)))))
  refine go_callV C (pc' := 290) (y' := (⟨"com/example/invariant/invariant/check/ConfigurationStore", "add", "([I)I"⟩ : MethodName)) (wd_75 hw) (wd_76 hw) (wd_78 hw) (wd_77 hw) (add2_1_met l Z a0 hw _ _ O2 S1 o' fx3 be4 gl0 gu0 gl1 gu1 gl2 gu2 gl3 gu3 hR0 hR1 rfl T1x rfl qpg Apg) (wd_79 hw) (wd_13 hw) (by decide) (by decide) (W := 0) (Nat.le_of_ble_eq_true rfl) (by decide) (by decide) (by decide) rfl S1.1 (argsL := [(.ref cb)]) (rest := []) pd_5 rfl rfl rfl at_287 rfl ?_
  rintro _ h4 ⟨r, sz2, vt2, vg, rfl, hr, S2, Apg2, KB⟩
  refine go_st (st' := [(.int r)]) rfl ?_
  refine go_old fun O4 => ?_
  rcases hr with ⟨rfl, ⟨y0, y1⟩, rfl⟩ | ⟨rfl, hne, rfl⟩
  · refine go_st (st' := [(.int (0 : Int32))]) rfl ?_
    have e0 : c0 = d0 := by rw [← U0, ← V0, y0]
    refine go_istore C (pc' := 292) at_290 (Ls' := #[(.val (.int c2)), (.val (.int x1)), (.val (.long x2)), .second, (.val (.long x3)), .second, (.val (.int x4)), (.val (.int l0)), (.val (.int u0)), (.val (.long spn)), .second, (.val (.int c0)), (.val (.int d0)), (.val (.int c1)), (.val (.int d1)), (.val (.int c3)), (.val (.int d3)), (.val (.int kd)), (.val (.ref al)), (.val (.ref ah)), (.val (.ref ca)), (.val (.ref cb)), (.val (.ref ia)), (.val (.ref ib)), (.val (.ref b)), (.val (.int (0 : Int32))), (.val (.int (0 : Int32))), .unset, .unset, .unset]) rfl rfl ?_
    refine go_iload C (pc' := 294) at_292 rfl rfl ?_
    refine go_iload C (pc' := 296) at_294 rfl rfl ?_
    refine go_icmpNo C (pc' := 299) at_296 (teq e0).2 rfl ?_
    have e1 : c1 = d1 := by rw [← U1, ← V1, y0]
    refine go_iload C (pc' := 301) at_299 rfl rfl ?_
    refine go_iload C (pc' := 303) at_301 rfl rfl ?_
    refine go_icmpNo C (pc' := 306) at_303 (teq e1).2 rfl ?_
    have e3 : c3 = d3 := by rw [← U3, ← V3, y1]
    refine go_iload C (pc' := 308) at_306 rfl rfl ?_
    refine go_iload C (pc' := 310) at_308 rfl rfl ?_
    refine go_icmpNo C (pc' := 313) at_310 (teq e3).2 rfl ?_
    refine go_iconst C (pc' := 314) at_313 (z := (1 : Int32)) (by decide) rfl ?_
    refine go_goto C (pc' := 318) at_314 (by decide) (by decide) ?_
    refine go_istore C (pc' := 320) at_318 (Ls' := #[(.val (.int c2)), (.val (.int x1)), (.val (.long x2)), .second, (.val (.long x3)), .second, (.val (.int x4)), (.val (.int l0)), (.val (.int u0)), (.val (.long spn)), .second, (.val (.int c0)), (.val (.int d0)), (.val (.int c1)), (.val (.int d1)), (.val (.int c3)), (.val (.int d3)), (.val (.int kd)), (.val (.ref al)), (.val (.ref ah)), (.val (.ref ca)), (.val (.ref cb)), (.val (.ref ia)), (.val (.ref ib)), (.val (.ref b)), (.val (.int (0 : Int32))), (.val (.int (0 : Int32))), (.val (.int (1 : Int32))), .unset, .unset]) rfl rfl ?_
    refine go_iload C (pc' := 322) at_320 rfl rfl ?_
    refine go_ifYes C (pc' := 327) at_322 (by decide) (by decide) (by decide) ?_
    refine go_iload C (pc' := 329) at_327 rfl rfl ?_
    refine go_iload C (pc' := 331) at_329 rfl rfl ?_
    refine go_ifNo C (pc' := 334) at_331 (by decide) rfl ?_
    refine go_iconst C (pc' := 335) at_334 (z := (0 : Int32)) (by decide) rfl ?_
    refine go_goto C (pc' := 339) at_335 (by decide) (by decide) ?_
    refine go_icmpYes C (pc' := 344) at_339 (by decide) (by decide) (by decide) ?_
    have fx5 := (((Aia.keep KI (ninS (ne_i (by omega)) nin0)).keep KA (ninS (ne_i (by omega)) (ninS (ne_i (by omega)) (ninS (ne_i (by omega)) (ninS (ne_i (by omega)) nin0))))).keep KB (ninS (ne_i (by omega)) (ninS (ne_i (by omega)) (ninS (ne_i (by omega)) (ninS (ne_i (by omega)) nin0)))))
    have fx6 := (((Aib.keep KI (ninS (ne_i (by omega)) nin0)).keep KA (ninS (ne_i (by omega)) (ninS (ne_i (by omega)) (ninS (ne_i (by omega)) (ninS (ne_i (by omega)) nin0))))).keep KB (ninS (ne_i (by omega)) (ninS (ne_i (by omega)) (ninS (ne_i (by omega)) (ninS (ne_i (by omega)) nin0)))))
    exact law_end2 l Z a0 hw (J := (0 : Int32)) (i0 := 0) (i1 := 1) O4 S2 o' Apg2 qpg rfl rfl (by decide) (by decide) (by decide) (by decide) rfl (by decide) (by decide) rfl fx5 fx6 be5 be6 be7 nia nib U0 (by rw [← y0]; exact V0) U1 (by rw [← y0]; exact V1) U2 (by rw [← y0]; exact V2) U3 (by rw [← y1]; exact V3) p e s m below meth cd C _ _ (by decide) (by decide)
  · refine go_st (st' := [(.int (1 : Int32))]) rfl ?_
    refine go_istore C (pc' := 292) at_290 (Ls' := #[(.val (.int c2)), (.val (.int x1)), (.val (.long x2)), .second, (.val (.long x3)), .second, (.val (.int x4)), (.val (.int l0)), (.val (.int u0)), (.val (.long spn)), .second, (.val (.int c0)), (.val (.int d0)), (.val (.int c1)), (.val (.int d1)), (.val (.int c3)), (.val (.int d3)), (.val (.int kd)), (.val (.ref al)), (.val (.ref ah)), (.val (.ref ca)), (.val (.ref cb)), (.val (.ref ia)), (.val (.ref ib)), (.val (.ref b)), (.val (.int (0 : Int32))), (.val (.int (1 : Int32))), .unset, .unset, .unset]) rfl rfl ?_
    refine go_iload C (pc' := 294) at_292 rfl rfl ?_
    refine go_iload C (pc' := 296) at_294 rfl rfl ?_
    by_cases ef0 : c0 = d0
    · refine go_icmpNo C (pc' := 299) at_296 (teq ef0).2 rfl ?_
      refine go_iload C (pc' := 301) at_299 rfl rfl ?_
      refine go_iload C (pc' := 303) at_301 rfl rfl ?_
      by_cases ef1 : c1 = d1
      · refine go_icmpNo C (pc' := 306) at_303 (teq ef1).2 rfl ?_
        refine go_iload C (pc' := 308) at_306 rfl rfl ?_
        refine go_iload C (pc' := 310) at_308 rfl rfl ?_
        by_cases ef2 : c3 = d3
        · refine go_icmpNo C (pc' := 313) at_310 (teq ef2).2 rfl ?_
          exact absurd (show r0 = q0 ∧ r1 = q1 by subst ef0 ef1 ef2; exact ⟨hR0.symm.trans hP0, hR1.symm.trans hP1⟩) hne
        · refine go_icmpYes C (pc' := 317) at_310 (feq ef2).2 (by decide) (by decide) ?_
          refine go_iconst C (pc' := 318) at_317 (z := (0 : Int32)) (by decide) rfl ?_
          refine go_istore C (pc' := 320) at_318 (Ls' := #[(.val (.int c2)), (.val (.int x1)), (.val (.long x2)), .second, (.val (.long x3)), .second, (.val (.int x4)), (.val (.int l0)), (.val (.int u0)), (.val (.long spn)), .second, (.val (.int c0)), (.val (.int d0)), (.val (.int c1)), (.val (.int d1)), (.val (.int c3)), (.val (.int d3)), (.val (.int kd)), (.val (.ref al)), (.val (.ref ah)), (.val (.ref ca)), (.val (.ref cb)), (.val (.ref ia)), (.val (.ref ib)), (.val (.ref b)), (.val (.int (0 : Int32))), (.val (.int (1 : Int32))), (.val (.int (0 : Int32))), .unset, .unset]) rfl rfl ?_
          refine go_iload C (pc' := 322) at_320 rfl rfl ?_
          refine go_ifYes C (pc' := 327) at_322 (by decide) (by decide) (by decide) ?_
          refine go_iload C (pc' := 329) at_327 rfl rfl ?_
          refine go_iload C (pc' := 331) at_329 rfl rfl ?_
          refine go_ifYes C (pc' := 338) at_331 (by decide) (by decide) (by decide) ?_
          refine go_iconst C (pc' := 339) at_338 (z := (1 : Int32)) (by decide) rfl ?_
          refine go_icmpYes C (pc' := 344) at_339 (by decide) (by decide) (by decide) ?_
          have fx7 := (((Aia.keep KI (ninS (ne_i (by omega)) nin0)).keep KA (ninS (ne_i (by omega)) (ninS (ne_i (by omega)) (ninS (ne_i (by omega)) (ninS (ne_i (by omega)) nin0))))).keep KB (ninS (ne_i (by omega)) (ninS (ne_i (by omega)) (ninS (ne_i (by omega)) (ninS (ne_i (by omega)) nin0)))))
          have fx8 := (((Aib.keep KI (ninS (ne_i (by omega)) nin0)).keep KA (ninS (ne_i (by omega)) (ninS (ne_i (by omega)) (ninS (ne_i (by omega)) (ninS (ne_i (by omega)) nin0))))).keep KB (ninS (ne_i (by omega)) (ninS (ne_i (by omega)) (ninS (ne_i (by omega)) (ninS (ne_i (by omega)) nin0)))))
          exact law_end2 l Z a0 hw (J := (2 : Int32)) (i0 := 2) (i1 := 3) O4 S2 o' Apg2 qpg rfl rfl (by decide) (by decide) (by decide) (by decide) rfl (by decide) (by decide) rfl fx7 fx8 be5 be6 be7 nia nib U0 V0 U1 V1 U2 V2 U3 V3 p e s m below meth cd C _ _ (by decide) (by decide)
      · refine go_icmpYes C (pc' := 317) at_303 (feq ef1).2 (by decide) (by decide) ?_
        refine go_iconst C (pc' := 318) at_317 (z := (0 : Int32)) (by decide) rfl ?_
        refine go_istore C (pc' := 320) at_318 (Ls' := #[(.val (.int c2)), (.val (.int x1)), (.val (.long x2)), .second, (.val (.long x3)), .second, (.val (.int x4)), (.val (.int l0)), (.val (.int u0)), (.val (.long spn)), .second, (.val (.int c0)), (.val (.int d0)), (.val (.int c1)), (.val (.int d1)), (.val (.int c3)), (.val (.int d3)), (.val (.int kd)), (.val (.ref al)), (.val (.ref ah)), (.val (.ref ca)), (.val (.ref cb)), (.val (.ref ia)), (.val (.ref ib)), (.val (.ref b)), (.val (.int (0 : Int32))), (.val (.int (1 : Int32))), (.val (.int (0 : Int32))), .unset, .unset]) rfl rfl ?_
        refine go_iload C (pc' := 322) at_320 rfl rfl ?_
        refine go_ifYes C (pc' := 327) at_322 (by decide) (by decide) (by decide) ?_
        refine go_iload C (pc' := 329) at_327 rfl rfl ?_
        refine go_iload C (pc' := 331) at_329 rfl rfl ?_
        refine go_ifYes C (pc' := 338) at_331 (by decide) (by decide) (by decide) ?_
        refine go_iconst C (pc' := 339) at_338 (z := (1 : Int32)) (by decide) rfl ?_
        refine go_icmpYes C (pc' := 344) at_339 (by decide) (by decide) (by decide) ?_
        have fx9 := (((Aia.keep KI (ninS (ne_i (by omega)) nin0)).keep KA (ninS (ne_i (by omega)) (ninS (ne_i (by omega)) (ninS (ne_i (by omega)) (ninS (ne_i (by omega)) nin0))))).keep KB (ninS (ne_i (by omega)) (ninS (ne_i (by omega)) (ninS (ne_i (by omega)) (ninS (ne_i (by omega)) nin0)))))
        have fx10 := (((Aib.keep KI (ninS (ne_i (by omega)) nin0)).keep KA (ninS (ne_i (by omega)) (ninS (ne_i (by omega)) (ninS (ne_i (by omega)) (ninS (ne_i (by omega)) nin0))))).keep KB (ninS (ne_i (by omega)) (ninS (ne_i (by omega)) (ninS (ne_i (by omega)) (ninS (ne_i (by omega)) nin0)))))
        exact law_end2 l Z a0 hw (J := (2 : Int32)) (i0 := 2) (i1 := 3) O4 S2 o' Apg2 qpg rfl rfl (by decide) (by decide) (by decide) (by decide) rfl (by decide) (by decide) rfl fx9 fx10 be5 be6 be7 nia nib U0 V0 U1 V1 U2 V2 U3 V3 p e s m below meth cd C _ _ (by decide) (by decide)
    · refine go_icmpYes C (pc' := 317) at_296 (feq ef0).2 (by decide) (by decide) ?_
      refine go_iconst C (pc' := 318) at_317 (z := (0 : Int32)) (by decide) rfl ?_
      refine go_istore C (pc' := 320) at_318 (Ls' := #[(.val (.int c2)), (.val (.int x1)), (.val (.long x2)), .second, (.val (.long x3)), .second, (.val (.int x4)), (.val (.int l0)), (.val (.int u0)), (.val (.long spn)), .second, (.val (.int c0)), (.val (.int d0)), (.val (.int c1)), (.val (.int d1)), (.val (.int c3)), (.val (.int d3)), (.val (.int kd)), (.val (.ref al)), (.val (.ref ah)), (.val (.ref ca)), (.val (.ref cb)), (.val (.ref ia)), (.val (.ref ib)), (.val (.ref b)), (.val (.int (0 : Int32))), (.val (.int (1 : Int32))), (.val (.int (0 : Int32))), .unset, .unset]) rfl rfl ?_
      refine go_iload C (pc' := 322) at_320 rfl rfl ?_
      refine go_ifYes C (pc' := 327) at_322 (by decide) (by decide) (by decide) ?_
      refine go_iload C (pc' := 329) at_327 rfl rfl ?_
      refine go_iload C (pc' := 331) at_329 rfl rfl ?_
      refine go_ifYes C (pc' := 338) at_331 (by decide) (by decide) (by decide) ?_
      refine go_iconst C (pc' := 339) at_338 (z := (1 : Int32)) (by decide) rfl ?_
      refine go_icmpYes C (pc' := 344) at_339 (by decide) (by decide) (by decide) ?_
      have fx11 := (((Aia.keep KI (ninS (ne_i (by omega)) nin0)).keep KA (ninS (ne_i (by omega)) (ninS (ne_i (by omega)) (ninS (ne_i (by omega)) (ninS (ne_i (by omega)) nin0))))).keep KB (ninS (ne_i (by omega)) (ninS (ne_i (by omega)) (ninS (ne_i (by omega)) (ninS (ne_i (by omega)) nin0)))))
      have fx12 := (((Aib.keep KI (ninS (ne_i (by omega)) nin0)).keep KA (ninS (ne_i (by omega)) (ninS (ne_i (by omega)) (ninS (ne_i (by omega)) (ninS (ne_i (by omega)) nin0))))).keep KB (ninS (ne_i (by omega)) (ninS (ne_i (by omega)) (ninS (ne_i (by omega)) (ninS (ne_i (by omega)) nin0)))))
      exact law_end2 l Z a0 hw (J := (2 : Int32)) (i0 := 2) (i1 := 3) O4 S2 o' Apg2 qpg rfl rfl (by decide) (by decide) (by decide) (by decide) rfl (by decide) (by decide) rfl fx11 fx12 be5 be6 be7 nia nib U0 V0 U1 V1 U2 V2 U3 V3 p e s m below meth cd C _ _ (by decide) (by decide)
set_option maxRecDepth 65536 in
set_option maxHeartbeats 40000000 in
theorem law_met (l : Launch) (Z : State) (a0 : Array Value) (hw : ∀ d ∈ tables_1, d.before a0 Z = true) (x0 : Int32) (x1 : Int32) (x2 : Int64) (x3 : Int64) (x4 : Int32)   :
    Met l Z Z.heap.size x code maxLocals ret tables_1 room_1 #[(.int x0), (.int x1), (.long x2), (.long x3), (.int x4)] Z.heap (fun v _ => v = some (.int (1 : Int32))) := by
  have O := Old.start Z
  refine met_of (Ls := #[(.val (.int x0)), (.val (.int x1)), (.val (.long x2)), .second, (.val (.long x3)), .second, (.val (.int x4)), .unset, .unset, .unset, .unset, .unset, .unset, .unset, .unset, .unset, .unset, .unset, .unset, .unset, .unset, .unset, .unset, .unset, .unset, .unset, .unset, .unset, .unset, .unset]) (by decide +kernel) (fun m => by first | (simp [entryFrame, mkF, argsToLocals, Value.category, maxLocals]; done) | rfl) O ?_
  intro p e s m below meth cd C
  obtain ⟨l0, hL0⟩ : ∃ z : Int32, (if x1 < x0 then x1 else x0) = z := ⟨_, rfl⟩
  obtain ⟨u0, hU0⟩ : ∃ z : Int32, (if x0 < x1 then x1 else x0) = z := ⟨_, rfl⟩
  have lu0 := mm hL0 hU0
  have lu1 : ¬ (2147483647 : Int32) < (-2147483648 : Int32) := by decide
  have lu2 := irr x0
  have lu3 : ¬ (0 : Int32) < (-1 : Int32) := by decide
  refine go_iloadN C (pc' := 1) at_0 rfl rfl ?_
  refine go_iloadN C (pc' := 2) at_1 rfl rfl ?_
  refine go_callS C (pc' := 5) (y' := (⟨"java/lang/Math", "min", "(II)I"⟩ : MethodName)) (wd_0 hw) (wd_1 hw) (min_met l Z a0 hw _ _ O x0 x1 l0 hL0) (wd_3 hw) (wd_2 hw) (by decide) (by decide) (W := 0) (Nat.le_of_ble_eq_true rfl) (by decide) (by decide) (by decide) rfl (argsL := [(.int x0), (.int x1)]) (rest := []) pd_1 rfl rfl rfl at_2 rfl ?_
  rintro _ _ ⟨rfl, rfl⟩
  refine go_st (st' := [(.int l0)]) rfl ?_
  refine go_istore C (pc' := 7) at_5 (Ls' := #[(.val (.int x0)), (.val (.int x1)), (.val (.long x2)), .second, (.val (.long x3)), .second, (.val (.int x4)), (.val (.int l0)), .unset, .unset, .unset, .unset, .unset, .unset, .unset, .unset, .unset, .unset, .unset, .unset, .unset, .unset, .unset, .unset, .unset, .unset, .unset, .unset, .unset, .unset]) rfl rfl ?_
  refine go_iloadN C (pc' := 8) at_7 rfl rfl ?_
  refine go_iloadN C (pc' := 9) at_8 rfl rfl ?_
  refine go_callS C (pc' := 12) (y' := (⟨"java/lang/Math", "max", "(II)I"⟩ : MethodName)) (wd_4 hw) (wd_5 hw) (max_met l Z a0 hw _ _ O x0 x1 u0 hU0) (wd_6 hw) (wd_2 hw) (by decide) (by decide) (W := 0) (Nat.le_of_ble_eq_true rfl) (by decide) (by decide) (by decide) rfl (argsL := [(.int x0), (.int x1)]) (rest := []) pd_1 rfl rfl rfl at_9 rfl ?_
  rintro _ _ ⟨rfl, rfl⟩
  refine go_st (st' := [(.int u0)]) rfl ?_
  refine go_istore C (pc' := 14) at_12 (Ls' := #[(.val (.int x0)), (.val (.int x1)), (.val (.long x2)), .second, (.val (.long x3)), .second, (.val (.int x4)), (.val (.int l0)), (.val (.int u0)), .unset, .unset, .unset, .unset, .unset, .unset, .unset, .unset, .unset, .unset, .unset, .unset, .unset, .unset, .unset, .unset, .unset, .unset, .unset, .unset, .unset]) rfl rfl ?_
  refine go_iload C (pc' := 16) at_14 rfl rfl ?_
  refine go_i2l C (pc' := 17) at_16 rfl ?_
  refine go_iload C (pc' := 19) at_17 rfl rfl ?_
  refine go_i2l C (pc' := 20) at_19 rfl ?_
  refine go_lsub C (pc' := 21) at_20 rfl ?_
  refine go_lconst C (pc' := 22) at_21 (z := (1 : Int64)) (by decide) rfl ?_
  refine go_ladd C (pc' := 23) at_22 rfl ?_
  obtain ⟨spn, hsp⟩ : ∃ z : Int64, (((u0).toInt64 - (l0).toInt64) + (1 : Int64)) = z := ⟨_, rfl⟩
  refine go_st (st' := [(.long spn)]) (by rw [hsp]) ?_
  refine go_lstore C (pc' := 25) at_23 (Ls' := #[(.val (.int x0)), (.val (.int x1)), (.val (.long x2)), .second, (.val (.long x3)), .second, (.val (.int x4)), (.val (.int l0)), (.val (.int u0)), (.val (.long spn)), .second, .unset, .unset, .unset, .unset, .unset, .unset, .unset, .unset, .unset, .unset, .unset, .unset, .unset, .unset, .unset, .unset, .unset, .unset, .unset]) rfl rfl ?_
  refine go_iload C (pc' := 27) at_25 rfl rfl ?_
  refine go_i2l C (pc' := 28) at_27 rfl ?_
  refine go_lloadN C (pc' := 29) at_28 rfl rfl ?_
  refine go_ldcLong C (pc' := 32) (wd_7 hw) at_29 rfl ?_
  refine go_land C (pc' := 33) at_32 rfl ?_
  refine go_lload C (pc' := 35) at_33 rfl rfl ?_
  refine go_lrem C (pc' := 36) at_35 (sp_ne lu0 hsp) rfl ?_
  refine go_ladd C (pc' := 37) at_36 rfl ?_
  refine go_l2i C (pc' := 38) at_37 rfl ?_
  obtain ⟨c0, hC0⟩ : ∃ z : Int32, (((l0).toInt64 + ((x2 &&& (4294967295 : Int64)) % spn))).toInt32 = z := ⟨_, rfl⟩
  refine go_st (st' := [(.int c0)]) (by rw [hC0]) ?_
  obtain ⟨hl0, hu0⟩ := rem_ok lu0 (lowL x2) hsp hC0
  refine go_istore C (pc' := 40) at_38 (Ls' := #[(.val (.int x0)), (.val (.int x1)), (.val (.long x2)), .second, (.val (.long x3)), .second, (.val (.int x4)), (.val (.int l0)), (.val (.int u0)), (.val (.long spn)), .second, (.val (.int c0)), .unset, .unset, .unset, .unset, .unset, .unset, .unset, .unset, .unset, .unset, .unset, .unset, .unset, .unset, .unset, .unset, .unset, .unset]) rfl rfl ?_
  refine go_iload C (pc' := 42) at_40 rfl rfl ?_
  refine go_i2l C (pc' := 43) at_42 rfl ?_
  refine go_lloadN C (pc' := 44) at_43 rfl rfl ?_
  refine go_bipush C (pc' := 46) at_44 (z := (32 : Int32)) (by decide) rfl ?_
  refine go_lushr C (pc' := 47) at_46 rfl ?_
  refine go_lload C (pc' := 49) at_47 rfl rfl ?_
  refine go_lrem C (pc' := 50) at_49 (sp_ne lu0 hsp) rfl ?_
  refine go_ladd C (pc' := 51) at_50 rfl ?_
  refine go_l2i C (pc' := 52) at_51 rfl ?_
  obtain ⟨d0, hE0⟩ : ∃ z : Int32, (((l0).toInt64 + (((x2).toUInt64 >>> ((32 : Int32) &&& 0x3f).toInt64.toUInt64).toInt64 % spn))).toInt32 = z := ⟨_, rfl⟩
  refine go_st (st' := [(.int d0)]) (by rw [hE0]) ?_
  obtain ⟨gl0, gu0⟩ := rem_ok lu0 (highL x2) hsp hE0
  refine go_istore C (pc' := 54) at_52 (Ls' := #[(.val (.int x0)), (.val (.int x1)), (.val (.long x2)), .second, (.val (.long x3)), .second, (.val (.int x4)), (.val (.int l0)), (.val (.int u0)), (.val (.long spn)), .second, (.val (.int c0)), (.val (.int d0)), .unset, .unset, .unset, .unset, .unset, .unset, .unset, .unset, .unset, .unset, .unset, .unset, .unset, .unset, .unset, .unset, .unset]) rfl rfl ?_
  refine go_lload C (pc' := 56) at_54 rfl rfl ?_
  refine go_l2i C (pc' := 57) at_56 rfl ?_
  obtain ⟨c1, hC1⟩ : ∃ z : Int32, (x3).toInt32 = z := ⟨_, rfl⟩
  refine go_st (st' := [(.int c1)]) (by rw [hC1]) ?_
  refine go_istore C (pc' := 59) at_57 (Ls' := #[(.val (.int x0)), (.val (.int x1)), (.val (.long x2)), .second, (.val (.long x3)), .second, (.val (.int x4)), (.val (.int l0)), (.val (.int u0)), (.val (.long spn)), .second, (.val (.int c0)), (.val (.int d0)), (.val (.int c1)), .unset, .unset, .unset, .unset, .unset, .unset, .unset, .unset, .unset, .unset, .unset, .unset, .unset, .unset, .unset, .unset]) rfl rfl ?_
  refine go_lload C (pc' := 61) at_59 rfl rfl ?_
  refine go_bipush C (pc' := 63) at_61 (z := (32 : Int32)) (by decide) rfl ?_
  refine go_lushr C (pc' := 64) at_63 rfl ?_
  refine go_l2i C (pc' := 65) at_64 rfl ?_
  obtain ⟨d1, hE1⟩ : ∃ z : Int32, (((x3).toUInt64 >>> ((32 : Int32) &&& 0x3f).toInt64.toUInt64).toInt64).toInt32 = z := ⟨_, rfl⟩
  refine go_st (st' := [(.int d1)]) (by rw [hE1]) ?_
  refine go_istore C (pc' := 67) at_65 (Ls' := #[(.val (.int x0)), (.val (.int x1)), (.val (.long x2)), .second, (.val (.long x3)), .second, (.val (.int x4)), (.val (.int l0)), (.val (.int u0)), (.val (.long spn)), .second, (.val (.int c0)), (.val (.int d0)), (.val (.int c1)), (.val (.int d1)), .unset, .unset, .unset, .unset, .unset, .unset, .unset, .unset, .unset, .unset, .unset, .unset, .unset, .unset, .unset]) rfl rfl ?_
  refine go_iload C (pc' := 69) at_67 rfl rfl ?_
  refine go_iconst C (pc' := 70) at_69 (z := (1 : Int32)) (by decide) rfl ?_
  refine go_iand C (pc' := 71) at_70 rfl ?_
  refine go_ineg C (pc' := 72) at_71 rfl ?_
  obtain ⟨c3, hC3⟩ : ∃ z : Int32, (-(x4 &&& (1 : Int32))) = z := ⟨_, rfl⟩
  refine go_st (st' := [(.int c3)]) (by rw [hC3]) ?_
  refine go_istore C (pc' := 74) at_72 (Ls' := #[(.val (.int x0)), (.val (.int x1)), (.val (.long x2)), .second, (.val (.long x3)), .second, (.val (.int x4)), (.val (.int l0)), (.val (.int u0)), (.val (.long spn)), .second, (.val (.int c0)), (.val (.int d0)), (.val (.int c1)), (.val (.int d1)), (.val (.int c3)), .unset, .unset, .unset, .unset, .unset, .unset, .unset, .unset, .unset, .unset, .unset, .unset, .unset, .unset]) rfl rfl ?_
  refine go_iload C (pc' := 76) at_74 rfl rfl ?_
  refine go_iconst C (pc' := 77) at_76 (z := (1 : Int32)) (by decide) rfl ?_
  refine go_iushr C (pc' := 78) at_77 rfl ?_
  refine go_iconst C (pc' := 79) at_78 (z := (1 : Int32)) (by decide) rfl ?_
  refine go_iand C (pc' := 80) at_79 rfl ?_
  refine go_ineg C (pc' := 81) at_80 rfl ?_
  obtain ⟨d3, hE3⟩ : ∃ z : Int32, (-(((x4).toUInt32 >>> ((1 : Int32) &&& 31).toUInt32).toInt32 &&& (1 : Int32))) = z := ⟨_, rfl⟩
  refine go_st (st' := [(.int d3)]) (by rw [hE3]) ?_
  refine go_istore C (pc' := 83) at_81 (Ls' := #[(.val (.int x0)), (.val (.int x1)), (.val (.long x2)), .second, (.val (.long x3)), .second, (.val (.int x4)), (.val (.int l0)), (.val (.int u0)), (.val (.long spn)), .second, (.val (.int c0)), (.val (.int d0)), (.val (.int c1)), (.val (.int d1)), (.val (.int c3)), (.val (.int d3)), .unset, .unset, .unset, .unset, .unset, .unset, .unset, .unset, .unset, .unset, .unset, .unset, .unset]) rfl rfl ?_
  refine go_iload C (pc' := 85) at_83 rfl rfl ?_
  refine go_iconst C (pc' := 86) at_85 (z := (2 : Int32)) (by decide) rfl ?_
  refine go_iushr C (pc' := 87) at_86 rfl ?_
  refine go_iconst C (pc' := 88) at_87 (z := (5 : Int32)) (by decide) rfl ?_
  refine go_irem C (pc' := 89) at_88 (by decide) rfl ?_
  obtain ⟨kd, hkd⟩ : ∃ z : Int32, (((x4).toUInt32 >>> ((2 : Int32) &&& 31).toUInt32).toInt32 % (5 : Int32)) = z := ⟨_, rfl⟩
  refine go_st (st' := [(.int kd)]) (by rw [hkd]) ?_
  obtain ⟨hl1, hu1⟩ := full_ok c1
  obtain ⟨gl1, gu1⟩ := full_ok d1
  obtain ⟨hl3, hu3⟩ := bit_ok hC3
  obtain ⟨gl3, gu3⟩ := bit_ok hE3
  have hk := kd_ok hkd
  have hl2 := irr x0
  have hu2 := irr x0
  have gl2 := irr x0
  have gu2 := irr x0
  have hz0 := span_hi lu0
  obtain ⟨w0, hb0⟩ : ∃ z : Int32, ((64 : Int32) - ((32 : Int32) + (nlI ((u0).toInt64 - (l0).toInt64).toInt32))) = z := ⟨_, rfl⟩
  obtain ⟨v0, hv0, hw0, hD0⟩ := bits_ok lu0 hb0
  obtain ⟨m0, hm0⟩ : ∃ z : Int64, (((1 : Int64) <<< (w0 &&& 0x3f).toInt64) - (1 : Int64)) = z := ⟨_, rfl⟩
  have hDc0 := D_ok hl0 hu0 hD0
  have hDd0 := D_ok gl0 gu0 hD0
  have hz1 := span_hi lu1
  obtain ⟨w1, hb1⟩ : ∃ z : Int32, ((64 : Int32) - ((32 : Int32) + (nlI (((2147483647 : Int32)).toInt64 - ((-2147483648 : Int32)).toInt64).toInt32))) = z := ⟨_, rfl⟩
  obtain ⟨v1, hv1, hw1, hD1⟩ := bits_ok lu1 hb1
  obtain ⟨m1, hm1⟩ : ∃ z : Int64, (((1 : Int64) <<< (w1 &&& 0x3f).toInt64) - (1 : Int64)) = z := ⟨_, rfl⟩
  have hDc1 := D_ok hl1 hu1 hD1
  have hDd1 := D_ok gl1 gu1 hD1
  have hz2 := span_hi lu2
  obtain ⟨w2, hb2⟩ : ∃ z : Int32, ((64 : Int32) - ((32 : Int32) + (nlI ((x0).toInt64 - (x0).toInt64).toInt32))) = z := ⟨_, rfl⟩
  obtain ⟨v2, ev2, hv2, hw2, hD2⟩ := bits0 hb2
  obtain ⟨m2, hm2⟩ : ∃ z : Int64, (((1 : Int64) <<< (w2 &&& 0x3f).toInt64) - (1 : Int64)) = z := ⟨_, rfl⟩
  have hDc2 := D_ok hl2 hu2 hD2
  have hDd2 := D_ok gl2 gu2 hD2
  have hz3 := span_hi lu3
  obtain ⟨w3, hb3⟩ : ∃ z : Int32, ((64 : Int32) - ((32 : Int32) + (nlI (((0 : Int32)).toInt64 - ((-1 : Int32)).toInt64).toInt32))) = z := ⟨_, rfl⟩
  obtain ⟨v3, hv3, hw3, hD3⟩ := bits_ok lu3 hb3
  obtain ⟨m3, hm3⟩ : ∃ z : Int64, (((1 : Int64) <<< (w3 &&& 0x3f).toInt64) - (1 : Int64)) = z := ⟨_, rfl⟩
  have hDc3 := D_ok hl3 hu3 hD3
  have hDd3 := D_ok gl3 gu3 hD3
  have hk0 : (0 : Int32).toInt = ((0 : Nat) : Int) := by decide
  obtain ⟨s1, hs1⟩ : ∃ z : Int32, ((0 : Int32) + w0) = z := ⟨_, rfl⟩
  have hk1 := sum_ok hk0 hw0 (by omega) (by omega) hs1
  have hc0 := (le64 hk1).mpr (by omega)
  obtain ⟨s2, hs2⟩ : ∃ z : Int32, (s1 + w1) = z := ⟨_, rfl⟩
  have hk2 := sum_ok hk1 hw1 (by omega) (by omega) hs2
  have hc1 := (le64 hk2).mpr (by omega)
  obtain ⟨s3, hs3⟩ : ∃ z : Int32, (s2 + w2) = z := ⟨_, rfl⟩
  have hk3 := sum_ok hk2 hw2 (by omega) (by omega) hs3
  have hc2 := (le64 hk3).mpr (by omega)
  have hk4 := sum_ok hk3 hw3 (by omega) (by omega) rfl
  refine go_istore C (pc' := 91) at_89 (Ls' := #[(.val (.int x0)), (.val (.int x1)), (.val (.long x2)), .second, (.val (.long x3)), .second, (.val (.int x4)), (.val (.int l0)), (.val (.int u0)), (.val (.long spn)), .second, (.val (.int c0)), (.val (.int d0)), (.val (.int c1)), (.val (.int d1)), (.val (.int c3)), (.val (.int d3)), (.val (.int kd)), .unset, .unset, .unset, .unset, .unset, .unset, .unset, .unset, .unset, .unset, .unset, .unset]) rfl rfl ?_
  refine go_iconst C (pc' := 92) at_91 (z := (4 : Int32)) (by decide) rfl ?_
  refine go_newPE C (pc' := 94) (len := 4) (ty := .int) (ad := "[I") rfl rfl (wd_8 hw) at_92 rfl (by decide) (by decide) (by decide) (by decide) (by decide) ?_
  intro h1 b1 k1 g1 n1 E1 A1 X1
  have sz_b1 := Nat.le_trans (Nat.le_refl _) (Nat.le_of_eq g1.symm)
  refine go_old fun O1 => ?_
  refine go_dup C (pc' := 95) at_94 rfl rfl ?_
  refine go_iconst C (pc' := 96) at_95 (z := (0 : Int32)) (by decide) rfl ?_
  refine go_iload C (pc' := 98) at_96 rfl rfl ?_
  refine go_iaset C (pc' := 99) A1 (by decide) (i := 0) (by decide) (by simp) (vs' := [(.int l0), (.int (0 : Int32)), (.int (0 : Int32)), (.int (0 : Int32))]) rfl at_98 rfl n1 ?_
  intro h2 W2 A2
  refine go_old fun O2 => ?_
  refine go_dup C (pc' := 100) at_99 rfl rfl ?_
  refine go_iconst C (pc' := 101) at_100 (z := (1 : Int32)) (by decide) rfl ?_
  refine go_ldcInt C (pc' := 103) (wd_9 hw) at_101 rfl ?_
  refine go_iaset C (pc' := 104) A2 (by decide) (i := 1) (by decide) (by simp) (vs' := [(.int l0), (.int (-2147483648 : Int32)), (.int (0 : Int32)), (.int (0 : Int32))]) rfl at_103 rfl n1 ?_
  intro h3 W3 A3
  refine go_old fun O3 => ?_
  refine go_dup C (pc' := 105) at_104 rfl rfl ?_
  refine go_iconst C (pc' := 106) at_105 (z := (2 : Int32)) (by decide) rfl ?_
  refine go_iloadN C (pc' := 107) at_106 rfl rfl ?_
  refine go_iaset C (pc' := 108) A3 (by decide) (i := 2) (by decide) (by simp) (vs' := [(.int l0), (.int (-2147483648 : Int32)), (.int x0), (.int (0 : Int32))]) rfl at_107 rfl n1 ?_
  intro h4 W4 A4
  refine go_old fun O4 => ?_
  refine go_dup C (pc' := 109) at_108 rfl rfl ?_
  refine go_iconst C (pc' := 110) at_109 (z := (3 : Int32)) (by decide) rfl ?_
  refine go_iconst C (pc' := 111) at_110 (z := (-1 : Int32)) (by decide) rfl ?_
  refine go_iaset C (pc' := 112) A4 (by decide) (i := 3) (by decide) (by simp) (vs' := [(.int l0), (.int (-2147483648 : Int32)), (.int x0), (.int (-1 : Int32))]) rfl at_111 rfl n1 ?_
  intro h5 W5 A5
  refine go_old fun O5 => ?_
  refine go_astore C (pc' := 114) at_112 rfl (Ls' := #[(.val (.int x0)), (.val (.int x1)), (.val (.long x2)), .second, (.val (.long x3)), .second, (.val (.int x4)), (.val (.int l0)), (.val (.int u0)), (.val (.long spn)), .second, (.val (.int c0)), (.val (.int d0)), (.val (.int c1)), (.val (.int d1)), (.val (.int c3)), (.val (.int d3)), (.val (.int kd)), (.val (.ref b1)), .unset, .unset, .unset, .unset, .unset, .unset, .unset, .unset, .unset, .unset, .unset]) rfl rfl ?_
  refine go_iconst C (pc' := 115) at_114 (z := (4 : Int32)) (by decide) rfl ?_
  refine go_newPE C (pc' := 117) (len := 4) (ty := .int) (ad := "[I") rfl rfl (wd_8 hw) at_115 rfl (by decide) (by decide) (by decide) (by decide) (by decide) ?_
  intro h6 b6 k6 g6 n6 E6 A6 X6
  have sz_b6 := Nat.le_trans (Nat.le_trans (Nat.le_trans (Nat.le_trans (Nat.le_trans (Nat.le_trans (Nat.le_refl _) E1.1) (Nat.le_of_eq W2.size.symm)) (Nat.le_of_eq W3.size.symm)) (Nat.le_of_eq W4.size.symm)) (Nat.le_of_eq W5.size.symm)) (Nat.le_of_eq g6.symm)
  have lt_b6 : @LT.lt Nat _ b1 b6 := by rw [g6]; exact A5.lt
  refine go_old fun O6 => ?_
  refine go_dup C (pc' := 118) at_117 rfl rfl ?_
  refine go_iconst C (pc' := 119) at_118 (z := (0 : Int32)) (by decide) rfl ?_
  refine go_iload C (pc' := 121) at_119 rfl rfl ?_
  refine go_iaset C (pc' := 122) A6 (by decide) (i := 0) (by decide) (by simp) (vs' := [(.int u0), (.int (0 : Int32)), (.int (0 : Int32)), (.int (0 : Int32))]) rfl at_121 rfl n6 ?_
  intro h7 W7 A7
  refine go_old fun O7 => ?_
  refine go_dup C (pc' := 123) at_122 rfl rfl ?_
  refine go_iconst C (pc' := 124) at_123 (z := (1 : Int32)) (by decide) rfl ?_
  refine go_ldcInt C (pc' := 126) (wd_10 hw) at_124 rfl ?_
  refine go_iaset C (pc' := 127) A7 (by decide) (i := 1) (by decide) (by simp) (vs' := [(.int u0), (.int (2147483647 : Int32)), (.int (0 : Int32)), (.int (0 : Int32))]) rfl at_126 rfl n6 ?_
  intro h8 W8 A8
  refine go_old fun O8 => ?_
  refine go_dup C (pc' := 128) at_127 rfl rfl ?_
  refine go_iconst C (pc' := 129) at_128 (z := (2 : Int32)) (by decide) rfl ?_
  refine go_iloadN C (pc' := 130) at_129 rfl rfl ?_
  refine go_iaset C (pc' := 131) A8 (by decide) (i := 2) (by decide) (by simp) (vs' := [(.int u0), (.int (2147483647 : Int32)), (.int x0), (.int (0 : Int32))]) rfl at_130 rfl n6 ?_
  intro h9 W9 A9
  refine go_old fun O9 => ?_
  refine go_dup C (pc' := 132) at_131 rfl rfl ?_
  refine go_iconst C (pc' := 133) at_132 (z := (3 : Int32)) (by decide) rfl ?_
  refine go_iconst C (pc' := 134) at_133 (z := (0 : Int32)) (by decide) rfl ?_
  refine go_iaset C (pc' := 135) A9 (by decide) (i := 3) (by decide) (by simp) (vs' := [(.int u0), (.int (2147483647 : Int32)), (.int x0), (.int (0 : Int32))]) rfl at_134 rfl n6 ?_
  intro h10 W10 A10
  refine go_old fun O10 => ?_
  refine go_astore C (pc' := 137) at_135 rfl (Ls' := #[(.val (.int x0)), (.val (.int x1)), (.val (.long x2)), .second, (.val (.long x3)), .second, (.val (.int x4)), (.val (.int l0)), (.val (.int u0)), (.val (.long spn)), .second, (.val (.int c0)), (.val (.int d0)), (.val (.int c1)), (.val (.int d1)), (.val (.int c3)), (.val (.int d3)), (.val (.int kd)), (.val (.ref b1)), (.val (.ref b6)), .unset, .unset, .unset, .unset, .unset, .unset, .unset, .unset, .unset, .unset]) rfl rfl ?_
  refine go_iconst C (pc' := 138) at_137 (z := (4 : Int32)) (by decide) rfl ?_
  refine go_newPA C (pc' := 140) (len := 4) (ty := .int) rfl (wd_8 hw) at_138 rfl (by decide) (by decide) (by decide) (by decide) (by decide) ?_
  intro h11 b11 k11 g11 n11 E11 A11
  have sz_b11 := Nat.le_trans (Nat.le_trans (Nat.le_trans (Nat.le_trans (Nat.le_trans (Nat.le_trans (Nat.le_trans (Nat.le_trans (Nat.le_trans (Nat.le_trans (Nat.le_trans (Nat.le_refl _) E1.1) (Nat.le_of_eq W2.size.symm)) (Nat.le_of_eq W3.size.symm)) (Nat.le_of_eq W4.size.symm)) (Nat.le_of_eq W5.size.symm)) E6.1) (Nat.le_of_eq W7.size.symm)) (Nat.le_of_eq W8.size.symm)) (Nat.le_of_eq W9.size.symm)) (Nat.le_of_eq W10.size.symm)) (Nat.le_of_eq g11.symm)
  have lt_b11 : @LT.lt Nat _ b6 b11 := by rw [g11]; exact A10.lt
  refine go_old fun O11 => ?_
  refine go_dup C (pc' := 141) at_140 rfl rfl ?_
  refine go_iconst C (pc' := 142) at_141 (z := (0 : Int32)) (by decide) rfl ?_
  refine go_iload C (pc' := 144) at_142 rfl rfl ?_
  refine go_iaset C (pc' := 145) A11 (by decide) (i := 0) (by decide) (by simp) (vs' := [(.int c0), (.int (0 : Int32)), (.int (0 : Int32)), (.int (0 : Int32))]) rfl at_144 rfl n11 ?_
  intro h12 W12 A12
  refine go_old fun O12 => ?_
  refine go_dup C (pc' := 146) at_145 rfl rfl ?_
  refine go_iconst C (pc' := 147) at_146 (z := (1 : Int32)) (by decide) rfl ?_
  refine go_iload C (pc' := 149) at_147 rfl rfl ?_
  refine go_iaset C (pc' := 150) A12 (by decide) (i := 1) (by decide) (by simp) (vs' := [(.int c0), (.int c1), (.int (0 : Int32)), (.int (0 : Int32))]) rfl at_149 rfl n11 ?_
  intro h13 W13 A13
  refine go_old fun O13 => ?_
  refine go_dup C (pc' := 151) at_150 rfl rfl ?_
  refine go_iconst C (pc' := 152) at_151 (z := (2 : Int32)) (by decide) rfl ?_
  refine go_iloadN C (pc' := 153) at_152 rfl rfl ?_
  refine go_iaset C (pc' := 154) A13 (by decide) (i := 2) (by decide) (by simp) (vs' := [(.int c0), (.int c1), (.int x0), (.int (0 : Int32))]) rfl at_153 rfl n11 ?_
  intro h14 W14 A14
  refine go_old fun O14 => ?_
  refine go_dup C (pc' := 155) at_154 rfl rfl ?_
  refine go_iconst C (pc' := 156) at_155 (z := (3 : Int32)) (by decide) rfl ?_
  refine go_iload C (pc' := 158) at_156 rfl rfl ?_
  refine go_iaset C (pc' := 159) A14 (by decide) (i := 3) (by decide) (by simp) (vs' := [(.int c0), (.int c1), (.int x0), (.int c3)]) rfl at_158 rfl n11 ?_
  intro h15 W15 A15
  refine go_old fun O15 => ?_
  refine go_astore C (pc' := 161) at_159 rfl (Ls' := #[(.val (.int x0)), (.val (.int x1)), (.val (.long x2)), .second, (.val (.long x3)), .second, (.val (.int x4)), (.val (.int l0)), (.val (.int u0)), (.val (.long spn)), .second, (.val (.int c0)), (.val (.int d0)), (.val (.int c1)), (.val (.int d1)), (.val (.int c3)), (.val (.int d3)), (.val (.int kd)), (.val (.ref b1)), (.val (.ref b6)), (.val (.ref b11)), .unset, .unset, .unset, .unset, .unset, .unset, .unset, .unset, .unset]) rfl rfl ?_
  refine go_iconst C (pc' := 162) at_161 (z := (4 : Int32)) (by decide) rfl ?_
  refine go_newPA C (pc' := 164) (len := 4) (ty := .int) rfl (wd_8 hw) at_162 rfl (by decide) (by decide) (by decide) (by decide) (by decide) ?_
  intro h16 b16 k16 g16 n16 E16 A16
  have sz_b16 := Nat.le_trans (Nat.le_trans (Nat.le_trans (Nat.le_trans (Nat.le_trans (Nat.le_trans (Nat.le_trans (Nat.le_trans (Nat.le_trans (Nat.le_trans (Nat.le_trans (Nat.le_trans (Nat.le_trans (Nat.le_trans (Nat.le_trans (Nat.le_trans (Nat.le_refl _) E1.1) (Nat.le_of_eq W2.size.symm)) (Nat.le_of_eq W3.size.symm)) (Nat.le_of_eq W4.size.symm)) (Nat.le_of_eq W5.size.symm)) E6.1) (Nat.le_of_eq W7.size.symm)) (Nat.le_of_eq W8.size.symm)) (Nat.le_of_eq W9.size.symm)) (Nat.le_of_eq W10.size.symm)) E11.1) (Nat.le_of_eq W12.size.symm)) (Nat.le_of_eq W13.size.symm)) (Nat.le_of_eq W14.size.symm)) (Nat.le_of_eq W15.size.symm)) (Nat.le_of_eq g16.symm)
  have lt_b16 : @LT.lt Nat _ b11 b16 := by rw [g16]; exact A15.lt
  refine go_old fun O16 => ?_
  refine go_dup C (pc' := 165) at_164 rfl rfl ?_
  refine go_iconst C (pc' := 166) at_165 (z := (0 : Int32)) (by decide) rfl ?_
  refine go_iload C (pc' := 168) at_166 rfl rfl ?_
  refine go_iaset C (pc' := 169) A16 (by decide) (i := 0) (by decide) (by simp) (vs' := [(.int d0), (.int (0 : Int32)), (.int (0 : Int32)), (.int (0 : Int32))]) rfl at_168 rfl n16 ?_
  intro h17 W17 A17
  refine go_old fun O17 => ?_
  refine go_dup C (pc' := 170) at_169 rfl rfl ?_
  refine go_iconst C (pc' := 171) at_170 (z := (1 : Int32)) (by decide) rfl ?_
  refine go_iload C (pc' := 173) at_171 rfl rfl ?_
  refine go_iaset C (pc' := 174) A17 (by decide) (i := 1) (by decide) (by simp) (vs' := [(.int d0), (.int d1), (.int (0 : Int32)), (.int (0 : Int32))]) rfl at_173 rfl n16 ?_
  intro h18 W18 A18
  refine go_old fun O18 => ?_
  refine go_dup C (pc' := 175) at_174 rfl rfl ?_
  refine go_iconst C (pc' := 176) at_175 (z := (2 : Int32)) (by decide) rfl ?_
  refine go_iloadN C (pc' := 177) at_176 rfl rfl ?_
  refine go_iaset C (pc' := 178) A18 (by decide) (i := 2) (by decide) (by simp) (vs' := [(.int d0), (.int d1), (.int x0), (.int (0 : Int32))]) rfl at_177 rfl n16 ?_
  intro h19 W19 A19
  refine go_old fun O19 => ?_
  refine go_dup C (pc' := 179) at_178 rfl rfl ?_
  refine go_iconst C (pc' := 180) at_179 (z := (3 : Int32)) (by decide) rfl ?_
  refine go_iload C (pc' := 182) at_180 rfl rfl ?_
  refine go_iaset C (pc' := 183) A19 (by decide) (i := 3) (by decide) (by simp) (vs' := [(.int d0), (.int d1), (.int x0), (.int d3)]) rfl at_182 rfl n16 ?_
  intro h20 W20 A20
  refine go_old fun O20 => ?_
  refine go_astore C (pc' := 185) at_183 rfl (Ls' := #[(.val (.int x0)), (.val (.int x1)), (.val (.long x2)), .second, (.val (.long x3)), .second, (.val (.int x4)), (.val (.int l0)), (.val (.int u0)), (.val (.long spn)), .second, (.val (.int c0)), (.val (.int d0)), (.val (.int c1)), (.val (.int d1)), (.val (.int c3)), (.val (.int d3)), (.val (.int kd)), (.val (.ref b1)), (.val (.ref b6)), (.val (.ref b11)), (.val (.ref b16)), .unset, .unset, .unset, .unset, .unset, .unset, .unset, .unset]) rfl rfl ?_
  refine go_iconst C (pc' := 186) at_185 (z := (5 : Int32)) (by decide) rfl ?_
  refine go_newPA C (pc' := 188) (len := 5) (ty := .int) rfl (wd_8 hw) at_186 rfl (by decide) (by decide) (by decide) (by decide) (by decide) ?_
  intro h21 b21 k21 g21 n21 E21 A21
  have sz_b21 := Nat.le_trans (Nat.le_trans (Nat.le_trans (Nat.le_trans (Nat.le_trans (Nat.le_trans (Nat.le_trans (Nat.le_trans (Nat.le_trans (Nat.le_trans (Nat.le_trans (Nat.le_trans (Nat.le_trans (Nat.le_trans (Nat.le_trans (Nat.le_trans (Nat.le_trans (Nat.le_trans (Nat.le_trans (Nat.le_trans (Nat.le_trans (Nat.le_refl _) E1.1) (Nat.le_of_eq W2.size.symm)) (Nat.le_of_eq W3.size.symm)) (Nat.le_of_eq W4.size.symm)) (Nat.le_of_eq W5.size.symm)) E6.1) (Nat.le_of_eq W7.size.symm)) (Nat.le_of_eq W8.size.symm)) (Nat.le_of_eq W9.size.symm)) (Nat.le_of_eq W10.size.symm)) E11.1) (Nat.le_of_eq W12.size.symm)) (Nat.le_of_eq W13.size.symm)) (Nat.le_of_eq W14.size.symm)) (Nat.le_of_eq W15.size.symm)) E16.1) (Nat.le_of_eq W17.size.symm)) (Nat.le_of_eq W18.size.symm)) (Nat.le_of_eq W19.size.symm)) (Nat.le_of_eq W20.size.symm)) (Nat.le_of_eq g21.symm)
  have lt_b21 : @LT.lt Nat _ b16 b21 := by rw [g21]; exact A20.lt
  refine go_old fun O21 => ?_
  refine go_dup C (pc' := 189) at_188 rfl rfl ?_
  refine go_iconst C (pc' := 190) at_189 (z := (0 : Int32)) (by decide) rfl ?_
  refine go_iload C (pc' := 192) at_190 rfl rfl ?_
  refine go_iconst C (pc' := 193) at_192 (z := (-1 : Int32)) (by decide) rfl ?_
  refine go_ixor C (pc' := 194) at_193 rfl ?_
  refine go_iaset C (pc' := 195) A21 (by decide) (i := 0) (by decide) (by simp) (vs' := [(.int (c0 ^^^ (-1 : Int32))), (.int (0 : Int32)), (.int (0 : Int32)), (.int (0 : Int32)), (.int (0 : Int32))]) rfl at_194 rfl n21 ?_
  intro h22 W22 A22
  refine go_old fun O22 => ?_
  refine go_dup C (pc' := 196) at_195 rfl rfl ?_
  refine go_iconst C (pc' := 197) at_196 (z := (1 : Int32)) (by decide) rfl ?_
  refine go_iload C (pc' := 199) at_197 rfl rfl ?_
  refine go_iconst C (pc' := 200) at_199 (z := (-1 : Int32)) (by decide) rfl ?_
  refine go_ixor C (pc' := 201) at_200 rfl ?_
  refine go_iaset C (pc' := 202) A22 (by decide) (i := 1) (by decide) (by simp) (vs' := [(.int (c0 ^^^ (-1 : Int32))), (.int (c1 ^^^ (-1 : Int32))), (.int (0 : Int32)), (.int (0 : Int32)), (.int (0 : Int32))]) rfl at_201 rfl n21 ?_
  intro h23 W23 A23
  refine go_old fun O23 => ?_
  refine go_dup C (pc' := 203) at_202 rfl rfl ?_
  refine go_iconst C (pc' := 204) at_203 (z := (2 : Int32)) (by decide) rfl ?_
  refine go_iloadN C (pc' := 205) at_204 rfl rfl ?_
  refine go_iconst C (pc' := 206) at_205 (z := (-1 : Int32)) (by decide) rfl ?_
  refine go_ixor C (pc' := 207) at_206 rfl ?_
  refine go_iaset C (pc' := 208) A23 (by decide) (i := 2) (by decide) (by simp) (vs' := [(.int (c0 ^^^ (-1 : Int32))), (.int (c1 ^^^ (-1 : Int32))), (.int (x0 ^^^ (-1 : Int32))), (.int (0 : Int32)), (.int (0 : Int32))]) rfl at_207 rfl n21 ?_
  intro h24 W24 A24
  refine go_old fun O24 => ?_
  refine go_dup C (pc' := 209) at_208 rfl rfl ?_
  refine go_iconst C (pc' := 210) at_209 (z := (3 : Int32)) (by decide) rfl ?_
  refine go_iload C (pc' := 212) at_210 rfl rfl ?_
  refine go_iconst C (pc' := 213) at_212 (z := (-1 : Int32)) (by decide) rfl ?_
  refine go_ixor C (pc' := 214) at_213 rfl ?_
  refine go_iaset C (pc' := 215) A24 (by decide) (i := 3) (by decide) (by simp) (vs' := [(.int (c0 ^^^ (-1 : Int32))), (.int (c1 ^^^ (-1 : Int32))), (.int (x0 ^^^ (-1 : Int32))), (.int (c3 ^^^ (-1 : Int32))), (.int (0 : Int32))]) rfl at_214 rfl n21 ?_
  intro h25 W25 A25
  refine go_old fun O25 => ?_
  refine go_dup C (pc' := 216) at_215 rfl rfl ?_
  refine go_iconst C (pc' := 217) at_216 (z := (4 : Int32)) (by decide) rfl ?_
  refine go_iload C (pc' := 219) at_217 rfl rfl ?_
  refine go_iaset C (pc' := 220) A25 (by decide) (i := 4) (by decide) (by simp) (vs' := [(.int (c0 ^^^ (-1 : Int32))), (.int (c1 ^^^ (-1 : Int32))), (.int (x0 ^^^ (-1 : Int32))), (.int (c3 ^^^ (-1 : Int32))), (.int x4)]) rfl at_219 rfl n21 ?_
  intro h26 W26 A26
  refine go_old fun O26 => ?_
  refine go_astore C (pc' := 222) at_220 rfl (Ls' := #[(.val (.int x0)), (.val (.int x1)), (.val (.long x2)), .second, (.val (.long x3)), .second, (.val (.int x4)), (.val (.int l0)), (.val (.int u0)), (.val (.long spn)), .second, (.val (.int c0)), (.val (.int d0)), (.val (.int c1)), (.val (.int d1)), (.val (.int c3)), (.val (.int d3)), (.val (.int kd)), (.val (.ref b1)), (.val (.ref b6)), (.val (.ref b11)), (.val (.ref b16)), (.val (.ref b21)), .unset, .unset, .unset, .unset, .unset, .unset, .unset]) rfl rfl ?_
  refine go_iconst C (pc' := 223) at_222 (z := (5 : Int32)) (by decide) rfl ?_
  refine go_newPA C (pc' := 225) (len := 5) (ty := .int) rfl (wd_8 hw) at_223 rfl (by decide) (by decide) (by decide) (by decide) (by decide) ?_
  intro h27 b27 k27 g27 n27 E27 A27
  have sz_b27 := Nat.le_trans (Nat.le_trans (Nat.le_trans (Nat.le_trans (Nat.le_trans (Nat.le_trans (Nat.le_trans (Nat.le_trans (Nat.le_trans (Nat.le_trans (Nat.le_trans (Nat.le_trans (Nat.le_trans (Nat.le_trans (Nat.le_trans (Nat.le_trans (Nat.le_trans (Nat.le_trans (Nat.le_trans (Nat.le_trans (Nat.le_trans (Nat.le_trans (Nat.le_trans (Nat.le_trans (Nat.le_trans (Nat.le_trans (Nat.le_trans (Nat.le_refl _) E1.1) (Nat.le_of_eq W2.size.symm)) (Nat.le_of_eq W3.size.symm)) (Nat.le_of_eq W4.size.symm)) (Nat.le_of_eq W5.size.symm)) E6.1) (Nat.le_of_eq W7.size.symm)) (Nat.le_of_eq W8.size.symm)) (Nat.le_of_eq W9.size.symm)) (Nat.le_of_eq W10.size.symm)) E11.1) (Nat.le_of_eq W12.size.symm)) (Nat.le_of_eq W13.size.symm)) (Nat.le_of_eq W14.size.symm)) (Nat.le_of_eq W15.size.symm)) E16.1) (Nat.le_of_eq W17.size.symm)) (Nat.le_of_eq W18.size.symm)) (Nat.le_of_eq W19.size.symm)) (Nat.le_of_eq W20.size.symm)) E21.1) (Nat.le_of_eq W22.size.symm)) (Nat.le_of_eq W23.size.symm)) (Nat.le_of_eq W24.size.symm)) (Nat.le_of_eq W25.size.symm)) (Nat.le_of_eq W26.size.symm)) (Nat.le_of_eq g27.symm)
  have lt_b27 : @LT.lt Nat _ b21 b27 := by rw [g27]; exact A26.lt
  refine go_old fun O27 => ?_
  refine go_dup C (pc' := 226) at_225 rfl rfl ?_
  refine go_iconst C (pc' := 227) at_226 (z := (0 : Int32)) (by decide) rfl ?_
  refine go_iload C (pc' := 229) at_227 rfl rfl ?_
  refine go_iconst C (pc' := 230) at_229 (z := (-1 : Int32)) (by decide) rfl ?_
  refine go_ixor C (pc' := 231) at_230 rfl ?_
  refine go_iaset C (pc' := 232) A27 (by decide) (i := 0) (by decide) (by simp) (vs' := [(.int (d0 ^^^ (-1 : Int32))), (.int (0 : Int32)), (.int (0 : Int32)), (.int (0 : Int32)), (.int (0 : Int32))]) rfl at_231 rfl n27 ?_
  intro h28 W28 A28
  refine go_old fun O28 => ?_
  refine go_dup C (pc' := 233) at_232 rfl rfl ?_
  refine go_iconst C (pc' := 234) at_233 (z := (1 : Int32)) (by decide) rfl ?_
  refine go_iload C (pc' := 236) at_234 rfl rfl ?_
  refine go_iconst C (pc' := 237) at_236 (z := (-1 : Int32)) (by decide) rfl ?_
  refine go_ixor C (pc' := 238) at_237 rfl ?_
  refine go_iaset C (pc' := 239) A28 (by decide) (i := 1) (by decide) (by simp) (vs' := [(.int (d0 ^^^ (-1 : Int32))), (.int (d1 ^^^ (-1 : Int32))), (.int (0 : Int32)), (.int (0 : Int32)), (.int (0 : Int32))]) rfl at_238 rfl n27 ?_
  intro h29 W29 A29
  refine go_old fun O29 => ?_
  refine go_dup C (pc' := 240) at_239 rfl rfl ?_
  refine go_iconst C (pc' := 241) at_240 (z := (2 : Int32)) (by decide) rfl ?_
  refine go_iloadN C (pc' := 242) at_241 rfl rfl ?_
  refine go_iconst C (pc' := 243) at_242 (z := (-1 : Int32)) (by decide) rfl ?_
  refine go_ixor C (pc' := 244) at_243 rfl ?_
  refine go_iaset C (pc' := 245) A29 (by decide) (i := 2) (by decide) (by simp) (vs' := [(.int (d0 ^^^ (-1 : Int32))), (.int (d1 ^^^ (-1 : Int32))), (.int (x0 ^^^ (-1 : Int32))), (.int (0 : Int32)), (.int (0 : Int32))]) rfl at_244 rfl n27 ?_
  intro h30 W30 A30
  refine go_old fun O30 => ?_
  refine go_dup C (pc' := 246) at_245 rfl rfl ?_
  refine go_iconst C (pc' := 247) at_246 (z := (3 : Int32)) (by decide) rfl ?_
  refine go_iload C (pc' := 249) at_247 rfl rfl ?_
  refine go_iconst C (pc' := 250) at_249 (z := (-1 : Int32)) (by decide) rfl ?_
  refine go_ixor C (pc' := 251) at_250 rfl ?_
  refine go_iaset C (pc' := 252) A30 (by decide) (i := 3) (by decide) (by simp) (vs' := [(.int (d0 ^^^ (-1 : Int32))), (.int (d1 ^^^ (-1 : Int32))), (.int (x0 ^^^ (-1 : Int32))), (.int (d3 ^^^ (-1 : Int32))), (.int (0 : Int32))]) rfl at_251 rfl n27 ?_
  intro h31 W31 A31
  refine go_old fun O31 => ?_
  refine go_dup C (pc' := 253) at_252 rfl rfl ?_
  refine go_iconst C (pc' := 254) at_253 (z := (4 : Int32)) (by decide) rfl ?_
  refine go_iload C (pc' := 256) at_254 rfl rfl ?_
  refine go_iaset C (pc' := 257) A31 (by decide) (i := 4) (by decide) (by simp) (vs' := [(.int (d0 ^^^ (-1 : Int32))), (.int (d1 ^^^ (-1 : Int32))), (.int (x0 ^^^ (-1 : Int32))), (.int (d3 ^^^ (-1 : Int32))), (.int x4)]) rfl at_256 rfl n27 ?_
  intro h32 W32 A32
  refine go_old fun O32 => ?_
  refine go_astore C (pc' := 259) at_257 rfl (Ls' := #[(.val (.int x0)), (.val (.int x1)), (.val (.long x2)), .second, (.val (.long x3)), .second, (.val (.int x4)), (.val (.int l0)), (.val (.int u0)), (.val (.long spn)), .second, (.val (.int c0)), (.val (.int d0)), (.val (.int c1)), (.val (.int d1)), (.val (.int c3)), (.val (.int d3)), (.val (.int kd)), (.val (.ref b1)), (.val (.ref b6)), (.val (.ref b11)), (.val (.ref b16)), (.val (.ref b21)), (.val (.ref b27)), .unset, .unset, .unset, .unset, .unset, .unset]) rfl rfl ?_
  refine go_new C (pc' := 262) (wd_11 hw) (wd_12 hw) (wd_13 hw) at_259 rfl (by decide) (by decide) ?_
  intro h33 b33 g33 n33 E33 A33 D33
  have sz_b33 := Nat.le_trans (Nat.le_trans (Nat.le_trans (Nat.le_trans (Nat.le_trans (Nat.le_trans (Nat.le_trans (Nat.le_trans (Nat.le_trans (Nat.le_trans (Nat.le_trans (Nat.le_trans (Nat.le_trans (Nat.le_trans (Nat.le_trans (Nat.le_trans (Nat.le_trans (Nat.le_trans (Nat.le_trans (Nat.le_trans (Nat.le_trans (Nat.le_trans (Nat.le_trans (Nat.le_trans (Nat.le_trans (Nat.le_trans (Nat.le_trans (Nat.le_trans (Nat.le_trans (Nat.le_trans (Nat.le_trans (Nat.le_trans (Nat.le_trans (Nat.le_refl _) E1.1) (Nat.le_of_eq W2.size.symm)) (Nat.le_of_eq W3.size.symm)) (Nat.le_of_eq W4.size.symm)) (Nat.le_of_eq W5.size.symm)) E6.1) (Nat.le_of_eq W7.size.symm)) (Nat.le_of_eq W8.size.symm)) (Nat.le_of_eq W9.size.symm)) (Nat.le_of_eq W10.size.symm)) E11.1) (Nat.le_of_eq W12.size.symm)) (Nat.le_of_eq W13.size.symm)) (Nat.le_of_eq W14.size.symm)) (Nat.le_of_eq W15.size.symm)) E16.1) (Nat.le_of_eq W17.size.symm)) (Nat.le_of_eq W18.size.symm)) (Nat.le_of_eq W19.size.symm)) (Nat.le_of_eq W20.size.symm)) E21.1) (Nat.le_of_eq W22.size.symm)) (Nat.le_of_eq W23.size.symm)) (Nat.le_of_eq W24.size.symm)) (Nat.le_of_eq W25.size.symm)) (Nat.le_of_eq W26.size.symm)) E27.1) (Nat.le_of_eq W28.size.symm)) (Nat.le_of_eq W29.size.symm)) (Nat.le_of_eq W30.size.symm)) (Nat.le_of_eq W31.size.symm)) (Nat.le_of_eq W32.size.symm)) (Nat.le_of_eq g33.symm)
  have lt_b33 : @LT.lt Nat _ b27 b33 := by rw [g33]; exact A32.lt
  have F33_pages : Fld Z h33 b33 "com/example/invariant/invariant/check/ConfigurationStore" "pages" "[[J" .null := D33 (Or.inl (wd_23 hw)) (ty := (.array (.array .long))) (by decide)
  have F33_table : Fld Z h33 b33 "com/example/invariant/invariant/check/ConfigurationStore" "table" "[J" .null := D33 (Or.inl (wd_26 hw)) (ty := (.array .long)) (by decide)
  have F33_low : Fld Z h33 b33 "com/example/invariant/invariant/check/ConfigurationStore" "low" "[I" .null := D33 (Or.inr (wd_37 hw)) (ty := (.array .int)) (by decide)
  have F33_high : Fld Z h33 b33 "com/example/invariant/invariant/check/ConfigurationStore" "high" "[I" .null := D33 (Or.inr (wd_39 hw)) (ty := (.array .int)) (by decide)
  have F33_shift : Fld Z h33 b33 "com/example/invariant/invariant/check/ConfigurationStore" "shift" "[I" .null := D33 (Or.inr (wd_41 hw)) (ty := (.array .int)) (by decide)
  have F33_mask : Fld Z h33 b33 "com/example/invariant/invariant/check/ConfigurationStore" "mask" "[J" .null := D33 (Or.inr (wd_43 hw)) (ty := (.array .long)) (by decide)
  have F33_firstInt : Fld Z h33 b33 "com/example/invariant/invariant/check/ConfigurationStore" "firstInt" "[I" .null := D33 (Or.inr (wd_63 hw)) (ty := (.array .int)) (by decide)
  have F33_words : Fld Z h33 b33 "com/example/invariant/invariant/check/ConfigurationStore" "words" "I" (.int (0 : Int32)) := D33 (Or.inr (wd_65 hw)) (ty := .int) (by decide)
  have F33_keyMask : Fld Z h33 b33 "com/example/invariant/invariant/check/ConfigurationStore" "keyMask" "[J" .null := D33 (Or.inr (wd_67 hw)) (ty := (.array .long)) (by decide)
  have F33_pageShift : Fld Z h33 b33 "com/example/invariant/invariant/check/ConfigurationStore" "pageShift" "I" (.int (0 : Int32)) := D33 (Or.inr (wd_72 hw)) (ty := .int) (by decide)
  have F33_packed : Fld Z h33 b33 "com/example/invariant/invariant/check/ConfigurationStore" "packed" "[J" .null := D33 (Or.inr (wd_74 hw)) (ty := (.array .long)) (by decide)
  have F33_size : Fld Z h33 b33 "com/example/invariant/invariant/check/ConfigurationStore" "size" "I" (.int (0 : Int32)) := D33 (Or.inl (wd_100 hw)) (ty := .int) (by decide)
  refine go_old fun O33 => ?_
  refine go_dup C (pc' := 263) at_262 rfl rfl ?_
  refine go_aload C (pc' := 265) at_263 rfl rfl rfl ?_
  refine go_aload C (pc' := 267) at_265 rfl rfl rfl ?_
  refine go_iload C (pc' := 269) at_267 rfl rfl ?_
  by_cases hc3 : (64 : Int32) < (s3 + w3)
  · skip
    obtain ⟨q0, hP0⟩ : ∃ z : Int64, ((((0 : Int64) ||| (pt c0 l0 (0 : Int32))) ||| (pt c1 (-2147483648 : Int32) s1)) ||| (pt x0 x0 s2)) = z := ⟨_, rfl⟩
    obtain ⟨r0, hR0⟩ : ∃ z : Int64, ((((0 : Int64) ||| (pt d0 l0 (0 : Int32))) ||| (pt d1 (-2147483648 : Int32) s1)) ||| (pt x0 x0 s2)) = z := ⟨_, rfl⟩
    obtain ⟨q1, hP1⟩ : ∃ z : Int64, ((0 : Int64) ||| (pt c3 (-1 : Int32) (0 : Int32))) = z := ⟨_, rfl⟩
    obtain ⟨r1, hR1⟩ : ∃ z : Int64, ((0 : Int64) ||| (pt d3 (-1 : Int32) (0 : Int32))) = z := ⟨_, rfl⟩
    have U := word3 hk0 hw0 hv0 hm0 hl0 hDc0 hk1 hw1 hv1 hm1 hl1 hDc1 hk2 hw2 hv2 hm2 hl2 hDc2 rfl rfl (by omega)
    rw [hP0] at U
    have U3 := word1 hk0 hw3 hv3 hm3 hl3 hDc3 (by omega)
    rw [hP1] at U3
    have V := word3 hk0 hw0 hv0 hm0 gl0 hDd0 hk1 hw1 hv1 hm1 gl1 hDd1 hk2 hw2 hv2 hm2 gl2 hDd2 rfl rfl (by omega)
    rw [hR0] at V
    have V3 := word1 hk0 hw3 hv3 hm3 gl3 hDd3 (by omega)
    rw [hR1] at V3
    have fx34 := ((((((((((((((((((((((((((((A5.ext E6).other W7 (ne_i (by omega))).other W8 (ne_i (by omega))).other W9 (ne_i (by omega))).other W10 (ne_i (by omega))).ext E11).other W12 (ne_i (by omega))).other W13 (ne_i (by omega))).other W14 (ne_i (by omega))).other W15 (ne_i (by omega))).ext E16).other W17 (ne_i (by omega))).other W18 (ne_i (by omega))).other W19 (ne_i (by omega))).other W20 (ne_i (by omega))).ext E21).other W22 (ne_i (by omega))).other W23 (ne_i (by omega))).other W24 (ne_i (by omega))).other W25 (ne_i (by omega))).other W26 (ne_i (by omega))).ext E27).other W28 (ne_i (by omega))).other W29 (ne_i (by omega))).other W30 (ne_i (by omega))).other W31 (ne_i (by omega))).other W32 (ne_i (by omega))).ext E33)
    have fx35 := (((((((((((((((((((((((A10.ext E11).other W12 (ne_i (by omega))).other W13 (ne_i (by omega))).other W14 (ne_i (by omega))).other W15 (ne_i (by omega))).ext E16).other W17 (ne_i (by omega))).other W18 (ne_i (by omega))).other W19 (ne_i (by omega))).other W20 (ne_i (by omega))).ext E21).other W22 (ne_i (by omega))).other W23 (ne_i (by omega))).other W24 (ne_i (by omega))).other W25 (ne_i (by omega))).other W26 (ne_i (by omega))).ext E27).other W28 (ne_i (by omega))).other W29 (ne_i (by omega))).other W30 (ne_i (by omega))).other W31 (ne_i (by omega))).other W32 (ne_i (by omega))).ext E33)
    have fx36 := ((((((((((((((((((A15.ext E16).other W17 (ne_i (by omega))).other W18 (ne_i (by omega))).other W19 (ne_i (by omega))).other W20 (ne_i (by omega))).ext E21).other W22 (ne_i (by omega))).other W23 (ne_i (by omega))).other W24 (ne_i (by omega))).other W25 (ne_i (by omega))).other W26 (ne_i (by omega))).ext E27).other W28 (ne_i (by omega))).other W29 (ne_i (by omega))).other W30 (ne_i (by omega))).other W31 (ne_i (by omega))).other W32 (ne_i (by omega))).ext E33)
    have fx37 := (((((((((((((A20.ext E21).other W22 (ne_i (by omega))).other W23 (ne_i (by omega))).other W24 (ne_i (by omega))).other W25 (ne_i (by omega))).other W26 (ne_i (by omega))).ext E27).other W28 (ne_i (by omega))).other W29 (ne_i (by omega))).other W30 (ne_i (by omega))).other W31 (ne_i (by omega))).other W32 (ne_i (by omega))).ext E33)
    have fx38 := (((((((A26.ext E27).other W28 (ne_i (by omega))).other W29 (ne_i (by omega))).other W30 (ne_i (by omega))).other W31 (ne_i (by omega))).other W32 (ne_i (by omega))).ext E33)
    have fx39 := ((((((((((((((((((((((((((((((((X1.wr W2).wr W3).wr W4).wr W5).ext E6).wr W7).wr W8).wr W9).wr W10).ext E11).wr W12).wr W13).wr W14).wr W15).ext E16).wr W17).wr W18).wr W19).wr W20).ext E21).wr W22).wr W23).wr W24).wr W25).wr W26).ext E27).wr W28).wr W29).wr W30).wr W31).wr W32).ext E33)
    have fx40 := (((((((((((((((((((((((((((X6.wr W7).wr W8).wr W9).wr W10).ext E11).wr W12).wr W13).wr W14).wr W15).ext E16).wr W17).wr W18).wr W19).wr W20).ext E21).wr W22).wr W23).wr W24).wr W25).wr W26).ext E27).wr W28).wr W29).wr W30).wr W31).wr W32).ext E33)
    exact law_tail2 l Z a0 hw x1 x4 kd x2 x3 spn b33 b1 b6 b11 b16 b21 b27 _ _ _ _ _ _ hk l0 u0 w0 (-2147483648 : Int32) (2147483647 : Int32) w1 x0 x0 w2 (-1 : Int32) (0 : Int32) w3 s1 s2 s3 m0 m1 m2 m3 hz0 hb0 hm0 hs1 hc0 hz1 hb1 hm1 hs2 hc1 hz2 hb2 hm2 hs3 hc2 hz3 hb3 hm3 hc3 c0 c1 x0 c3 d0 d1 d3 (c0 ^^^ (-1 : Int32)) (d0 ^^^ (-1 : Int32)) (c1 ^^^ (-1 : Int32)) (d1 ^^^ (-1 : Int32)) (x0 ^^^ (-1 : Int32)) (x0 ^^^ (-1 : Int32)) (c3 ^^^ (-1 : Int32)) (d3 ^^^ (-1 : Int32)) q0 r0 q1 r1 hl0 hu0 hl1 hu1 hl2 hu2 hl3 hu3 gl0 gu0 gl1 gu1 gl2 gu2 gl3 gu3 hP0 hR0 hP1 hR1 U.1 V.1 U.2.1 V.2.1 U.2.2 V.2.2 U3 V3 _ O33 fx34 fx35 fx36 fx37 fx38 (A32.ext E33) fx39 fx40 A33 F33_low F33_high F33_firstInt F33_words F33_shift F33_mask F33_keyMask F33_pageShift F33_pages F33_size F33_table F33_packed n33 (by omega) (by omega) (by omega) (by omega) (by omega) (by omega) (by omega) n21 n27 p e s m below meth cd C
  · skip
    have hk5 := (le64 hk4).mp hc3
    obtain ⟨q0, hP0⟩ : ∃ z : Int64, (((((0 : Int64) ||| (pt c0 l0 (0 : Int32))) ||| (pt c1 (-2147483648 : Int32) s1)) ||| (pt x0 x0 s2)) ||| (pt c3 (-1 : Int32) s3)) = z := ⟨_, rfl⟩
    obtain ⟨r0, hR0⟩ : ∃ z : Int64, (((((0 : Int64) ||| (pt d0 l0 (0 : Int32))) ||| (pt d1 (-2147483648 : Int32) s1)) ||| (pt x0 x0 s2)) ||| (pt d3 (-1 : Int32) s3)) = z := ⟨_, rfl⟩
    have U := word4 hk0 hw0 hv0 hm0 hl0 hDc0 hk1 hw1 hv1 hm1 hl1 hDc1 hk2 hw2 hv2 hm2 hl2 hDc2 hk3 hw3 hv3 hm3 hl3 hDc3 rfl rfl rfl (by omega)
    rw [hP0] at U
    have V := word4 hk0 hw0 hv0 hm0 gl0 hDd0 hk1 hw1 hv1 hm1 gl1 hDd1 hk2 hw2 hv2 hm2 gl2 hDd2 hk3 hw3 hv3 hm3 gl3 hDd3 rfl rfl rfl (by omega)
    rw [hR0] at V
    have fx41 := ((((((((((((((((((((((((((((A5.ext E6).other W7 (ne_i (by omega))).other W8 (ne_i (by omega))).other W9 (ne_i (by omega))).other W10 (ne_i (by omega))).ext E11).other W12 (ne_i (by omega))).other W13 (ne_i (by omega))).other W14 (ne_i (by omega))).other W15 (ne_i (by omega))).ext E16).other W17 (ne_i (by omega))).other W18 (ne_i (by omega))).other W19 (ne_i (by omega))).other W20 (ne_i (by omega))).ext E21).other W22 (ne_i (by omega))).other W23 (ne_i (by omega))).other W24 (ne_i (by omega))).other W25 (ne_i (by omega))).other W26 (ne_i (by omega))).ext E27).other W28 (ne_i (by omega))).other W29 (ne_i (by omega))).other W30 (ne_i (by omega))).other W31 (ne_i (by omega))).other W32 (ne_i (by omega))).ext E33)
    have fx42 := (((((((((((((((((((((((A10.ext E11).other W12 (ne_i (by omega))).other W13 (ne_i (by omega))).other W14 (ne_i (by omega))).other W15 (ne_i (by omega))).ext E16).other W17 (ne_i (by omega))).other W18 (ne_i (by omega))).other W19 (ne_i (by omega))).other W20 (ne_i (by omega))).ext E21).other W22 (ne_i (by omega))).other W23 (ne_i (by omega))).other W24 (ne_i (by omega))).other W25 (ne_i (by omega))).other W26 (ne_i (by omega))).ext E27).other W28 (ne_i (by omega))).other W29 (ne_i (by omega))).other W30 (ne_i (by omega))).other W31 (ne_i (by omega))).other W32 (ne_i (by omega))).ext E33)
    have fx43 := ((((((((((((((((((A15.ext E16).other W17 (ne_i (by omega))).other W18 (ne_i (by omega))).other W19 (ne_i (by omega))).other W20 (ne_i (by omega))).ext E21).other W22 (ne_i (by omega))).other W23 (ne_i (by omega))).other W24 (ne_i (by omega))).other W25 (ne_i (by omega))).other W26 (ne_i (by omega))).ext E27).other W28 (ne_i (by omega))).other W29 (ne_i (by omega))).other W30 (ne_i (by omega))).other W31 (ne_i (by omega))).other W32 (ne_i (by omega))).ext E33)
    have fx44 := (((((((((((((A20.ext E21).other W22 (ne_i (by omega))).other W23 (ne_i (by omega))).other W24 (ne_i (by omega))).other W25 (ne_i (by omega))).other W26 (ne_i (by omega))).ext E27).other W28 (ne_i (by omega))).other W29 (ne_i (by omega))).other W30 (ne_i (by omega))).other W31 (ne_i (by omega))).other W32 (ne_i (by omega))).ext E33)
    have fx45 := (((((((A26.ext E27).other W28 (ne_i (by omega))).other W29 (ne_i (by omega))).other W30 (ne_i (by omega))).other W31 (ne_i (by omega))).other W32 (ne_i (by omega))).ext E33)
    have fx46 := ((((((((((((((((((((((((((((((((X1.wr W2).wr W3).wr W4).wr W5).ext E6).wr W7).wr W8).wr W9).wr W10).ext E11).wr W12).wr W13).wr W14).wr W15).ext E16).wr W17).wr W18).wr W19).wr W20).ext E21).wr W22).wr W23).wr W24).wr W25).wr W26).ext E27).wr W28).wr W29).wr W30).wr W31).wr W32).ext E33)
    have fx47 := (((((((((((((((((((((((((((X6.wr W7).wr W8).wr W9).wr W10).ext E11).wr W12).wr W13).wr W14).wr W15).ext E16).wr W17).wr W18).wr W19).wr W20).ext E21).wr W22).wr W23).wr W24).wr W25).wr W26).ext E27).wr W28).wr W29).wr W30).wr W31).wr W32).ext E33)
    exact law_tail1 l Z a0 hw x1 x4 kd x2 x3 spn b33 b1 b6 b11 b16 b21 b27 _ _ _ _ _ _ hk l0 u0 w0 (-2147483648 : Int32) (2147483647 : Int32) w1 x0 x0 w2 (-1 : Int32) (0 : Int32) w3 s1 s2 s3 m0 m1 m2 m3 hz0 hb0 hm0 hs1 hc0 hz1 hb1 hm1 hs2 hc1 hz2 hb2 hm2 hs3 hc2 hz3 hb3 hm3 hc3 c0 c1 x0 c3 d0 d1 d3 (c0 ^^^ (-1 : Int32)) (d0 ^^^ (-1 : Int32)) (c1 ^^^ (-1 : Int32)) (d1 ^^^ (-1 : Int32)) (x0 ^^^ (-1 : Int32)) (x0 ^^^ (-1 : Int32)) (c3 ^^^ (-1 : Int32)) (d3 ^^^ (-1 : Int32)) q0 r0 hl0 hu0 hl1 hu1 hl2 hu2 hl3 hu3 gl0 gu0 gl1 gu1 gl2 gu2 gl3 gu3 hP0 hR0 U.1 V.1 U.2.1 V.2.1 U.2.2.1 V.2.2.1 U.2.2.2 V.2.2.2 _ O33 fx41 fx42 fx43 fx44 fx45 (A32.ext E33) fx46 fx47 A33 F33_low F33_high F33_firstInt F33_words F33_shift F33_mask F33_keyMask F33_pageShift F33_pages F33_size F33_table F33_packed n33 (by omega) (by omega) (by omega) (by omega) (by omega) (by omega) (by omega) n21 n27 p e s m below meth cd C
set_option maxRecDepth 65536 in
set_option maxHeartbeats 40000000 in
theorem comes_1 {Post : Tables → Env → Array Value → State → Outcome → State → Prop} (hpost : ∀ tb e args s v u, (limb_1_1.after args s (.returned v) u = true ∧ limb_1_2.after args s (.returned v) u = true ∧ True) → FrameEnd s (.returned v) u (Jvm.fieldLocs frame_1_writes args s ++ Jvm.arrayLocs frame_1_arrays args s ++ Jvm.staticLocs frame_1_statics s) 48 768 → Post tb e args s (.returned v) u) :
    ArmFor flags0 classFile x code maxLocals ret World_1 tables_1 room_1 Calls_1 rest_1 Pre_1 Post := by
  intro l hfl _ _ p e ha hc hk s m args below hf hA hF happ hP
  obtain ⟨hcalls, hrest, hpre⟩ := hP
  obtain ⟨-, -, -, hnamed, -, -, -, hat⟩ := (Spec.applies_iff hf).mp happ
  obtain ⟨hg, hn⟩ := and_e (Cond.before_iff.mp (show (Jvm.Cond.and given_1 narrow_1).before args s = true from hpre))
  obtain ⟨hcount, g0⟩ := and_e hg
  obtain ⟨w0, w1, w2, w3, w4, rfl⟩ : ∃ w0 w1 w2 w3 w4 : Value, args = #[w0, w1, w2, w3, w4] := by
    have hs : args.size = 5 := by simpa [Cond.value, given_1] using hcount
    obtain ⟨L⟩ := args
    match L, hs with
    | [w0, w1, w2, w3, w4], _ => exact ⟨w0, w1, w2, w3, w4, rfl⟩
  have hw := fun d (hd : d ∈ tables_1) => atoms_spec (ws := Jvm.Cond.code x code maxLocals ret :: tables_1) hat d (List.mem_cons_of_mem _ hd)
  have hfit : Fit s := fun {y c} hc i hi => by
    obtain ⟨ha, rfl⟩ := Array.getElem?_eq_some_iff.mp hc
    have q := List.all_eq_true.mp ((Array.all_eq_true_iff_forall_mem.mp hF) _ (Array.getElem_mem ha)) i (List.mem_range.mpr hi)
    simpa [Array.getElem?_eq_getElem hi] using q
  obtain ⟨u0, g1⟩ := and_e g0
  obtain ⟨i0, e0⟩ := is_v u0
  obtain rfl : w0 = (.int i0) := Option.some.inj e0
  obtain ⟨u1, g2⟩ := and_e g1
  obtain ⟨i1, e1⟩ := is_v u1
  obtain rfl : w1 = (.int i1) := Option.some.inj e1
  obtain ⟨u2, g3⟩ := and_e g2
  obtain ⟨i2, e2⟩ := isL_v u2
  obtain rfl : w2 = (.long i2) := Option.some.inj e2
  obtain ⟨u3, g4⟩ := and_e g3
  obtain ⟨i3, e3⟩ := isL_v u3
  obtain rfl : w3 = (.long i3) := Option.some.inj e3
  obtain ⟨i4, e4⟩ := is_v g4
  obtain rfl : w4 = (.int i4) := Option.some.inj e4
  obtain ⟨n, o, h1, h2, h3, _, L, rfl, ⟨N, -, rfl⟩, hq⟩ := law_met l s _ hw i0 i1 i2 i3 i4   p e ha hc hk s m _ below hf ((Spec.applies_iff_loose hf).mp happ).1 ⟨rfl, State.Warmed39.refl s, rfl⟩ trivial
  exact ⟨n, _, h1, h2, h3, hpost _ _ _ _ _ _ ⟨Cond.after_iff.mpr rfl, Cond.after_iff.mpr (eq_i res_at (Term.int_eval (1)) rfl), trivial⟩ ⟨hq.1, hq.2.1, (hq.2.2.sift fun y hy => Or.inr (N y hy)).mono (by decide) (by decide)⟩⟩
theorem main_1_1 : Claimed_1_1 := comes_1 fun _ _ _ _ _ _ h hF => ⟨h.1, hF⟩
theorem main_1_2 : Claimed_1_2 := comes_1 fun _ _ _ _ _ _ h hF => ⟨h.2.1, hF⟩
end Jvm.Pilot.@@N@@
namespace Jvm.Pilot.@@N@@
open Jvm Jvm.ClassFile Sem Op Lib Jvm.Free Jvm.Stand Jvm.Pilot.@@N@@.Jvm.D
/-! MADE BY PROGRAM (witnessworld.py) out of the Statement's table words and the real class files: 20 classes; the members and pool entries that the words name. The judged class is class 1, her method 1. -/
namespace start1
open Jvm.ClassFile
def u (s : String) : CpInfo := .utf8 (stringToUtf16 s)
/-- a pool by its gaps: so many unusable entries, then the entry; so many at the end -/
def gap : Nat → List CpInfo → List CpInfo
  | 0, r => r
  | n + 1, r => .unusable :: gap n r
def poolList (es : List (Nat × CpInfo)) (last : Nat) : List CpInfo := es.foldr (fun e r => gap e.1 (e.2 :: r)) (gap last [])
def pool (es : List (Nat × CpInfo)) (last : Nat) : Array CpInfo := ⟨poolList es last⟩
def fileOf (pool : Array CpInfo) (this : Nat) (attrs : Array Attribute := #[]) (ms : Array MethodInfo := #[]) (fl : Nat := 33) (sup : Nat := 0) (ifs : Array Nat := #[]) (fds : Array FieldInfo := #[]) : ClassFile where
  minorVersion := 0
  majorVersion := 65
  constantPool := pool
  accessFlags := fl
  thisClass := this
  superClass := sup
  interfaces := ifs
  fields := fds
  methods := ms
  attributes := attrs
def plain (name : String) (sup : Option ClassId) : Class where
  name := name
  kind := .ordinary
  loader := none
  accessFlags := 33
  super := sup
  interfaces := #[]
  cf := none
  fields := #[]
  methods := #[]
  instanceTypes := #[]
  staticTypes := #[]
  resolved := #[]
  callSites := []
  init := .initialized
  statics := none
  mirror := none

def pool0 : Array CpInfo := pool [(5, u "<init>"), (0, u "()V"), (1, .class_ 10), (1, u "java/lang/Object"), (85, u "clone"), (0, u "()Ljava/lang/Object;")] 26

def k0c0 : Code := { maxStack := 0, maxLocals := 1, code := object_method_1_code, exceptionTable := #[], attributes := #[] }
def k0m0 : Method := { name := "<init>", desc := "()V", sig := { parameters := [], returnType := none }, accessFlags := 1, code := some k0c0 }
def k0m1 : Method := { name := "clone", desc := "()Ljava/lang/Object;", sig := { parameters := [], returnType := some (.object "java/lang/Object") }, accessFlags := 260, code := none }
/-- java/lang/Object -/
def k0 : Class := { plain "java/lang/Object" none with
  accessFlags := 33
  interfaces := #[]
  cf := some (fileOf pool0 8 #[] #[{ accessFlags := 1, nameIndex := 5, descriptorIndex := 6, attributes := #[] }, { accessFlags := 260, nameIndex := 96, descriptorIndex := 97, attributes := #[] }] 33 0 #[] #[])
  fields := #[]
  methods := #[k0m0, k0m1]
  instanceTypes := #[]
  staticTypes := #[]
  resolved := Array.replicate 124 none
  statics := none }

def pool1 : Array CpInfo := pool [(2, .class_ 4), (1, u "java/lang/Object"), (0, u "<init>"), (0, u "()V"), (0, .methodref 8 9), (0, .class_ 10), (0, .nameAndType 11 12), (0, u "java/lang/Math"), (0, u "min"), (0, u "(II)I"), (0, .methodref 8 14), (0, .nameAndType 15 12), (0, u "max"), (0, .long 4294967295), (3, .integer 2147483648), (0, .integer 2147483647), (0, .class_ 23), (0, u "com/example/invariant/invariant/check/ConfigurationStore"), (0, .methodref 22 25), (0, .nameAndType 5 26), (0, u "([I[II)V"), (0, .methodref 22 28), (0, .nameAndType 29 30), (0, u "add"), (0, u "([I)I"), (0, .methodref 22 32), (0, .nameAndType 33 6), (0, u site_346.name), (0, .methodref 22 35), (0, .nameAndType 36 37), (0, u "copy"), (0, u "(I[I)V"), (0, .class_ 39), (0, u "com/example/invariant/invariant/check/ConfigurationStoreCopyPinLaw"), (2, u "law"), (0, u "(IIJJI)Z")] 5

def k1m0 : Method := { name := "<init>", desc := "()V", sig := { parameters := [], returnType := none }, accessFlags := 1, code := none }
def k1c1 : Code := { maxStack := 6, maxLocals := 30, code := code, exceptionTable := #[], attributes := #[] }
def k1m1 : Method := { name := "law", desc := "(IIJJI)Z", sig := { parameters := [.int, .int, .long, .long, .int], returnType := some .boolean }, accessFlags := 9, code := some k1c1 }
/-- com/example/invariant/invariant/check/ConfigurationStoreCopyPinLaw -/
def k1 : Class := { plain "com/example/invariant/invariant/check/ConfigurationStoreCopyPinLaw" (some 0) with
  accessFlags := 49
  interfaces := #[]
  cf := some (fileOf pool1 38 #[] #[{ accessFlags := 1, nameIndex := 5, descriptorIndex := 6, attributes := #[] }, { accessFlags := 9, nameIndex := 42, descriptorIndex := 43, attributes := #[] }] 49 2 #[] #[])
  fields := #[]
  methods := #[k1m0, k1m1]
  instanceTypes := #[]
  staticTypes := #[]
  resolved := Array.replicate 49 none
  statics := none }

def pool2 : Array CpInfo := pool [(1, .class_ 2), (0, u "java/lang/Math"), (1, .class_ 6), (1, u "java/lang/Object"), (0, u "<init>"), (0, u "()V"), (89, .class_ 100), (1, u "java/lang/Math$RandomNumberGeneratorHolder"), (71, u "negativeZeroFloatBits"), (0, u "J"), (2, u "negativeZeroDoubleBits"), (21, u "max"), (2, u "min"), (43, u "$assertionsDisabled"), (0, u "Z"), (88, u "(II)I"), (2, u "twoToTheDoubleScaleDown"), (0, u "D"), (4, u "twoToTheDoubleScaleUp"), (9, u "E"), (3, u "PI"), (2, u "TAU"), (2, u "DEGREES_TO_RADIANS"), (0, u "RADIANS_TO_DEGREES")] 94

def k2m0 : Method := { name := "<init>", desc := "()V", sig := { parameters := [], returnType := none }, accessFlags := 2, code := none }
def k2c1 : Code := { maxStack := 2, maxLocals := 2, code := jdk_29_method_65_code, exceptionTable := #[], attributes := #[] }
def k2m1 : Method := { name := "max", desc := "(II)I", sig := { parameters := [.int, .int], returnType := some .int }, accessFlags := 9, code := some k2c1 }
def k2c2 : Code := { maxStack := 2, maxLocals := 2, code := jdk_29_method_69_code, exceptionTable := #[], attributes := #[] }
def k2m2 : Method := { name := "min", desc := "(II)I", sig := { parameters := [.int, .int], returnType := some .int }, accessFlags := 9, code := some k2c2 }
/-- java/lang/Math -/
def k2 : Class := { plain "java/lang/Math" (some 0) with
  accessFlags := 49
  interfaces := #[]
  cf := some (fileOf pool2 1 #[.nestMembers #[98]] #[{ accessFlags := 2, nameIndex := 7, descriptorIndex := 8, attributes := #[] }, { accessFlags := 9, nameIndex := 198, descriptorIndex := 335, attributes := #[] }, { accessFlags := 9, nameIndex := 201, descriptorIndex := 335, attributes := #[] }] 49 4 #[] #[{ accessFlags := 25, nameIndex := 354, descriptorIndex := 339, attributes := #[] }, { accessFlags := 25, nameIndex := 358, descriptorIndex := 339, attributes := #[] }, { accessFlags := 25, nameIndex := 361, descriptorIndex := 339, attributes := #[] }, { accessFlags := 26, nameIndex := 364, descriptorIndex := 339, attributes := #[] }, { accessFlags := 26, nameIndex := 365, descriptorIndex := 339, attributes := #[] }, { accessFlags := 26, nameIndex := 172, descriptorIndex := 173, attributes := #[] }, { accessFlags := 26, nameIndex := 176, descriptorIndex := 173, attributes := #[] }, { accessFlags := 8, nameIndex := 344, descriptorIndex := 339, attributes := #[] }, { accessFlags := 8, nameIndex := 338, descriptorIndex := 339, attributes := #[] }, { accessFlags := 4120, nameIndex := 245, descriptorIndex := 246, attributes := #[] }])
  fields := #[{ name := "E", type := .double, accessFlags := 25, slot := 0, constantValue := 0 }, { name := "PI", type := .double, accessFlags := 25, slot := 1, constantValue := 0 }, { name := "TAU", type := .double, accessFlags := 25, slot := 2, constantValue := 0 }, { name := "DEGREES_TO_RADIANS", type := .double, accessFlags := 26, slot := 3, constantValue := 0 }, { name := "RADIANS_TO_DEGREES", type := .double, accessFlags := 26, slot := 4, constantValue := 0 }, { name := "negativeZeroFloatBits", type := .long, accessFlags := 26, slot := 5, constantValue := 0 }, { name := "negativeZeroDoubleBits", type := .long, accessFlags := 26, slot := 6, constantValue := 0 }, { name := "twoToTheDoubleScaleUp", type := .double, accessFlags := 8, slot := 7, constantValue := 0 }, { name := "twoToTheDoubleScaleDown", type := .double, accessFlags := 8, slot := 8, constantValue := 0 }, { name := "$assertionsDisabled", type := .boolean, accessFlags := 4120, slot := 9, constantValue := 0 }]
  methods := #[k2m0, k2m1, k2m2]
  instanceTypes := #[]
  staticTypes := #[.double, .double, .double, .double, .double, .long, .long, .double, .double, .boolean]
  resolved := Array.replicate 460 none
  statics := none }

def pool3 : Array CpInfo := pool [(2, .class_ 4), (1, u "com/example/invariant/invariant/check/ConfigurationStore"), (0, u "<init>"), (0, u "([I[II)V"), (0, .methodref 8 9), (0, .class_ 10), (0, .nameAndType 5 11), (0, u "java/lang/Object"), (0, u "()V"), (0, .class_ 13), (0, u "[J"), (0, .fieldref 2 15), (0, .nameAndType 16 17), (0, u "pages"), (0, u "[[J"), (0, .fieldref 2 19), (0, .nameAndType 20 13), (0, u "table"), (0, .methodref 22 23), (0, .class_ 24), (0, .nameAndType 25 26), (0, u "[I"), (0, u "clone"), (0, u "()Ljava/lang/Object;"), (0, .fieldref 2 28), (0, .nameAndType 29 24), (0, u "low"), (0, .fieldref 2 31), (0, .nameAndType 32 24), (0, u "high"), (0, .fieldref 2 34), (0, .nameAndType 35 24), (0, u "shift"), (0, .fieldref 2 37), (0, .nameAndType 38 13), (0, u "mask"), (0, .class_ 40), (0, u "java/lang/Long"), (0, .methodref 39 42), (0, .nameAndType 43 44), (0, u "numberOfLeadingZeros"), (0, u "(J)I"), (0, .methodref 46 47), (0, .class_ 48), (0, .nameAndType 49 50), (0, u "java/util/Arrays"), (0, u "copyOf"), (0, u "([II)[I"), (0, .fieldref 2 52), (0, .nameAndType 53 24), (0, u "firstInt"), (0, .fieldref 2 55), (0, .nameAndType 56 57), (0, u "words"), (0, u "I"), (0, .fieldref 2 59), (0, .nameAndType 60 13), (0, u "keyMask"), (0, .integer 1048576), (0, .methodref 63 64), (0, .class_ 65), (0, .nameAndType 66 67), (0, u "java/lang/Math"), (0, u "max"), (0, u "(II)I"), (0, .methodref 69 70), (0, .class_ 71), (0, .nameAndType 43 72), (0, u "java/lang/Integer"), (0, u "(I)I"), (0, .fieldref 2 74), (0, .nameAndType 75 57), (0, u "pageShift"), (0, .fieldref 2 77), (0, .nameAndType 78 13), (0, u "packed"), (0, .integer 536870912), (0, .fieldref 2 81), (0, .nameAndType 82 57), (0, u "size"), (3, u "([ILjava/util/function/IntPredicate;)I"), (0, .methodref 2 88), (0, .nameAndType 89 90), (0, u "pack"), (0, u "([I)I"), (0, .methodref 2 92), (0, .nameAndType 93 72), (0, u "slot"), (0, .methodref 2 95), (0, .nameAndType 96 97), (0, u "holder"), (0, u "(ILjava/util/function/IntPredicate;)I"), (0, .methodref 2 99), (0, .nameAndType 100 86), (0, u "add"), (0, .methodref 2 102), (0, .nameAndType 103 104), (0, u "capacity"), (0, u "()I"), (9, .methodref 2 115), (0, .nameAndType 116 117), (0, u "makeRoom"), (0, u "(II)V"), (0, .methodref 119 120), (0, .class_ 121), (0, .nameAndType 122 123), (0, u "java/lang/System"), (0, u "arraycopy"), (0, u "(Ljava/lang/Object;ILjava/lang/Object;II)V"), (0, .long 2), (13, .methodref 63 139), (0, .nameAndType 140 67), (0, u "min"), (13, .long 11400714819323198485), (1, .long 18397679294719823053), (1, .methodref 2 159), (0, .nameAndType 160 161), (0, u "holdsPacked"), (0, u "(JI)Z"), (0, u "PAGE_LONGS"), (1, u "FIRST_PAGE"), (1, u "MAX_TABLE"), (6, u site_346.name), (0, u "copy"), (0, u "(I[I)V")] 19

def k3c0 : Code := { maxStack := 8, maxLocals := 10, code := prog_52_method_2_code, exceptionTable := #[], attributes := #[] }
def k3m0 : Method := { name := "<init>", desc := "([I[II)V", sig := { parameters := [(.array .int), (.array .int), .int], returnType := none }, accessFlags := 0, code := some k3c0 }
def k3c1 : Code := { maxStack := 1, maxLocals := 1, code := prog_52_method_3_code, exceptionTable := #[], attributes := #[] }
def k3m1 : Method := { name := "capacity", desc := "()I", sig := { parameters := [], returnType := some .int }, accessFlags := 0, code := some k3c1 }
def k3c2 : Code := { maxStack := 3, maxLocals := 2, code := prog_52_method_7_code, exceptionTable := #[], attributes := #[] }
def k3m2 : Method := { name := "add", desc := "([I)I", sig := { parameters := [(.array .int)], returnType := some .int }, accessFlags := 0, code := some k3c2 }
def k3c3 : Code := { maxStack := 6, maxLocals := 8, code := prog_52_method_8_code, exceptionTable := #[], attributes := #[] }
def k3m3 : Method := { name := "add", desc := "([ILjava/util/function/IntPredicate;)I", sig := { parameters := [(.array .int), (.object "java/util/function/IntPredicate")], returnType := some .int }, accessFlags := 0, code := some k3c3 }
def k3c4 : Code := { maxStack := 4, maxLocals := 8, code := prog_52_method_10_code, exceptionTable := #[], attributes := #[] }
def k3m4 : Method := { name := "holder", desc := "(ILjava/util/function/IntPredicate;)I", sig := { parameters := [.int, (.object "java/util/function/IntPredicate")], returnType := some .int }, accessFlags := 2, code := some k3c4 }
def k3c5 : Code := { maxStack := 2, maxLocals := 1, code := prog_52_method_11_code, exceptionTable := #[], attributes := #[] }
def k3m5 : Method := { name := site_346.name, desc := "()V", sig := { parameters := [], returnType := none }, accessFlags := 0, code := some k3c5 }
def k3c6 : Code := { maxStack := 6, maxLocals := 9, code := prog_52_method_12_code, exceptionTable := #[], attributes := #[] }
def k3m6 : Method := { name := "copy", desc := "(I[I)V", sig := { parameters := [.int, (.array .int)], returnType := none }, accessFlags := 0, code := some k3c6 }
def k3c7 : Code := { maxStack := 4, maxLocals := 7, code := prog_52_method_13_code, exceptionTable := #[], attributes := #[] }
def k3m7 : Method := { name := "makeRoom", desc := "(II)V", sig := { parameters := [.int, .int], returnType := none }, accessFlags := 2, code := some k3c7 }
def k3c8 : Code := { maxStack := 7, maxLocals := 9, code := prog_52_method_14_code, exceptionTable := #[], attributes := #[] }
def k3m8 : Method := { name := "pack", desc := "([I)I", sig := { parameters := [(.array .int)], returnType := some .int }, accessFlags := 2, code := some k3c8 }
def k3c9 : Code := { maxStack := 4, maxLocals := 4, code := prog_52_method_15_code, exceptionTable := #[], attributes := #[] }
def k3m9 : Method := { name := "slot", desc := "(I)I", sig := { parameters := [.int], returnType := some .int }, accessFlags := 2, code := some k3c9 }
def k3c10 : Code := { maxStack := 4, maxLocals := 8, code := prog_52_method_16_code, exceptionTable := #[], attributes := #[] }
def k3m10 : Method := { name := "holdsPacked", desc := "(JI)Z", sig := { parameters := [.long, .int], returnType := some .boolean }, accessFlags := 2, code := some k3c10 }
/-- com/example/invariant/invariant/check/ConfigurationStore -/
def k3 : Class := { plain "com/example/invariant/invariant/check/ConfigurationStore" (some 0) with
  accessFlags := 48
  interfaces := #[]
  cf := some (fileOf pool3 2 #[] #[{ accessFlags := 0, nameIndex := 5, descriptorIndex := 6, attributes := #[] }, { accessFlags := 0, nameIndex := 103, descriptorIndex := 104, attributes := #[] }, { accessFlags := 0, nameIndex := 100, descriptorIndex := 90, attributes := #[] }, { accessFlags := 0, nameIndex := 100, descriptorIndex := 86, attributes := #[] }, { accessFlags := 2, nameIndex := 96, descriptorIndex := 97, attributes := #[] }, { accessFlags := 0, nameIndex := 173, descriptorIndex := 11, attributes := #[] }, { accessFlags := 0, nameIndex := 174, descriptorIndex := 175, attributes := #[] }, { accessFlags := 2, nameIndex := 116, descriptorIndex := 117, attributes := #[] }, { accessFlags := 2, nameIndex := 89, descriptorIndex := 90, attributes := #[] }, { accessFlags := 2, nameIndex := 93, descriptorIndex := 72, attributes := #[] }, { accessFlags := 2, nameIndex := 160, descriptorIndex := 161, attributes := #[] }] 48 8 #[] #[{ accessFlags := 26, nameIndex := 162, descriptorIndex := 57, attributes := #[] }, { accessFlags := 26, nameIndex := 164, descriptorIndex := 57, attributes := #[] }, { accessFlags := 26, nameIndex := 166, descriptorIndex := 57, attributes := #[] }, { accessFlags := 18, nameIndex := 29, descriptorIndex := 24, attributes := #[] }, { accessFlags := 18, nameIndex := 32, descriptorIndex := 24, attributes := #[] }, { accessFlags := 18, nameIndex := 53, descriptorIndex := 24, attributes := #[] }, { accessFlags := 18, nameIndex := 56, descriptorIndex := 57, attributes := #[] }, { accessFlags := 18, nameIndex := 35, descriptorIndex := 24, attributes := #[] }, { accessFlags := 18, nameIndex := 38, descriptorIndex := 13, attributes := #[] }, { accessFlags := 18, nameIndex := 60, descriptorIndex := 13, attributes := #[] }, { accessFlags := 18, nameIndex := 75, descriptorIndex := 57, attributes := #[] }, { accessFlags := 2, nameIndex := 16, descriptorIndex := 17, attributes := #[] }, { accessFlags := 2, nameIndex := 82, descriptorIndex := 57, attributes := #[] }, { accessFlags := 2, nameIndex := 20, descriptorIndex := 13, attributes := #[] }, { accessFlags := 18, nameIndex := 78, descriptorIndex := 13, attributes := #[] }])
  fields := #[{ name := "PAGE_LONGS", type := .int, accessFlags := 26, slot := 0, constantValue := 0 }, { name := "FIRST_PAGE", type := .int, accessFlags := 26, slot := 1, constantValue := 0 }, { name := "MAX_TABLE", type := .int, accessFlags := 26, slot := 2, constantValue := 0 }, { name := "low", type := (.array .int), accessFlags := 18, slot := 0, constantValue := 0 }, { name := "high", type := (.array .int), accessFlags := 18, slot := 1, constantValue := 0 }, { name := "firstInt", type := (.array .int), accessFlags := 18, slot := 2, constantValue := 0 }, { name := "words", type := .int, accessFlags := 18, slot := 3, constantValue := 0 }, { name := "shift", type := (.array .int), accessFlags := 18, slot := 4, constantValue := 0 }, { name := "mask", type := (.array .long), accessFlags := 18, slot := 5, constantValue := 0 }, { name := "keyMask", type := (.array .long), accessFlags := 18, slot := 6, constantValue := 0 }, { name := "pageShift", type := .int, accessFlags := 18, slot := 7, constantValue := 0 }, { name := "pages", type := (.array (.array .long)), accessFlags := 2, slot := 8, constantValue := 0 }, { name := "size", type := .int, accessFlags := 2, slot := 9, constantValue := 0 }, { name := "table", type := (.array .long), accessFlags := 2, slot := 10, constantValue := 0 }, { name := "packed", type := (.array .long), accessFlags := 18, slot := 11, constantValue := 0 }]
  methods := #[k3m0, k3m1, k3m2, k3m3, k3m4, k3m5, k3m6, k3m7, k3m8, k3m9, k3m10]
  instanceTypes := #[(.array .int), (.array .int), (.array .int), .int, (.array .int), (.array .long), (.array .long), .int, (.array (.array .long)), .int, (.array .long), (.array .long)]
  staticTypes := #[.int, .int, .int]
  resolved := Array.replicate 195 none
  statics := none }

def pool4 : Array CpInfo := pool [(1, .class_ 2), (0, u "java/lang/Cloneable"), (0, .class_ 4), (0, u "java/lang/Object")] 2

/-- java/lang/Cloneable -/
def k4 : Class := { plain "java/lang/Cloneable" (some 0) with
  accessFlags := 1537
  interfaces := #[]
  cf := some (fileOf pool4 1 #[] #[] 1537 3 #[] #[])
  fields := #[]
  methods := #[]
  instanceTypes := #[]
  staticTypes := #[]
  resolved := Array.replicate 7 none
  statics := none }

def pool5 : Array CpInfo := pool [(1, .class_ 2), (0, u "java/io/Serializable"), (0, .class_ 4), (0, u "java/lang/Object")] 2

/-- java/io/Serializable -/
def k5 : Class := { plain "java/io/Serializable" (some 0) with
  accessFlags := 1537
  interfaces := #[]
  cf := some (fileOf pool5 1 #[] #[] 1537 3 #[] #[])
  fields := #[]
  methods := #[]
  instanceTypes := #[]
  staticTypes := #[]
  resolved := Array.replicate 7 none
  statics := none }

def pool6 : Array CpInfo := pool [(2, .class_ 4), (1, u "java/lang/Object"), (0, u "<init>"), (0, u "()V"), (1, .class_ 10), (1, u "java/lang/Number"), (2, .class_ 14), (0, u "java/io/Serializable"), (0, u "serialVersionUID"), (0, u "J")] 20

def k6m0 : Method := { name := "<init>", desc := "()V", sig := { parameters := [], returnType := none }, accessFlags := 1, code := none }
/-- java/lang/Number -/
def k6 : Class := { plain "java/lang/Number" (some 0) with
  accessFlags := 1057
  interfaces := #[5]
  cf := some (fileOf pool6 8 #[] #[{ accessFlags := 1, nameIndex := 5, descriptorIndex := 6, attributes := #[] }] 1057 2 #[13] #[{ accessFlags := 26, nameIndex := 15, descriptorIndex := 16, attributes := #[] }])
  fields := #[{ name := "serialVersionUID", type := .long, accessFlags := 26, slot := 0, constantValue := 0 }]
  methods := #[k6m0]
  instanceTypes := #[]
  staticTypes := #[.long]
  resolved := Array.replicate 37 none
  statics := none }

def pool7 : Array CpInfo := pool [(1, .class_ 2), (0, u "java/lang/Comparable"), (0, .class_ 4), (0, u "java/lang/Object")] 7

/-- java/lang/Comparable -/
def k7 : Class := { plain "java/lang/Comparable" (some 0) with
  accessFlags := 1537
  interfaces := #[]
  cf := some (fileOf pool7 1 #[] #[] 1537 3 #[] #[])
  fields := #[]
  methods := #[]
  instanceTypes := #[]
  staticTypes := #[]
  resolved := Array.replicate 12 none
  statics := none }

def pool8 : Array CpInfo := pool [(1, .class_ 2), (0, u "java/lang/constant/Constable"), (0, .class_ 4), (0, u "java/lang/Object")] 6

/-- java/lang/constant/Constable -/
def k8 : Class := { plain "java/lang/constant/Constable" (some 0) with
  accessFlags := 1537
  interfaces := #[]
  cf := some (fileOf pool8 1 #[] #[] 1537 3 #[] #[])
  fields := #[]
  methods := #[]
  instanceTypes := #[]
  staticTypes := #[]
  resolved := Array.replicate 11 none
  statics := none }

def pool9 : Array CpInfo := pool [(1, .class_ 2), (0, u "java/lang/constant/ConstantDesc"), (0, .class_ 4), (0, u "java/lang/Object")] 32

/-- java/lang/constant/ConstantDesc -/
def k9 : Class := { plain "java/lang/constant/ConstantDesc" (some 0) with
  accessFlags := 1537
  interfaces := #[]
  cf := some (fileOf pool9 1 #[] #[] 1537 3 #[] #[])
  fields := #[]
  methods := #[]
  instanceTypes := #[]
  staticTypes := #[]
  resolved := Array.replicate 37 none
  statics := none }

def pool10 : Array CpInfo := pool [(1, .class_ 2), (0, u "java/lang/Long"), (15, .class_ 20), (1, u "java/lang/Integer"), (79, u "numberOfLeadingZeros"), (0, u "(J)I"), (133, .class_ 237), (1, u "java/lang/Long$LongCache"), (33, .class_ 272), (0, u "java/lang/Number"), (2, u "value"), (0, u "J"), (31, .methodref 18 309), (0, .nameAndType 100 310), (0, u "(I)I"), (50, u "TYPE"), (0, u "Ljava/lang/Class;"), (0, .class_ 364), (0, u "java/lang/Comparable"), (0, .class_ 366), (0, u "java/lang/constant/Constable"), (0, .class_ 368), (0, u "java/lang/constant/ConstantDesc"), (0, u "MIN_VALUE"), (1, u "MAX_VALUE"), (4, u "SIZE"), (0, u "I"), (1, u "BYTES"), (1, u "serialVersionUID")] 142

def k10c0 : Code := { maxStack := 3, maxLocals := 3, code := jdk_35_method_48_code, exceptionTable := #[], attributes := #[] }
def k10m0 : Method := { name := "numberOfLeadingZeros", desc := "(J)I", sig := { parameters := [.long], returnType := some .int }, accessFlags := 9, code := some k10c0 }
/-- java/lang/Long -/
def k10 : Class := { plain "java/lang/Long" (some 6) with
  accessFlags := 49
  interfaces := #[7, 8, 9]
  cf := some (fileOf pool10 1 #[.nestMembers #[235]] #[{ accessFlags := 9, nameIndex := 100, descriptorIndex := 101, attributes := #[] }] 49 271 #[363, 365, 367] #[{ accessFlags := 25, nameIndex := 369, descriptorIndex := 276, attributes := #[] }, { accessFlags := 25, nameIndex := 371, descriptorIndex := 276, attributes := #[] }, { accessFlags := 25, nameIndex := 361, descriptorIndex := 362, attributes := #[] }, { accessFlags := 18, nameIndex := 275, descriptorIndex := 276, attributes := #[] }, { accessFlags := 25, nameIndex := 376, descriptorIndex := 377, attributes := #[] }, { accessFlags := 25, nameIndex := 379, descriptorIndex := 377, attributes := #[] }, { accessFlags := 26, nameIndex := 381, descriptorIndex := 276, attributes := #[] }])
  fields := #[{ name := "MIN_VALUE", type := .long, accessFlags := 25, slot := 0, constantValue := 0 }, { name := "MAX_VALUE", type := .long, accessFlags := 25, slot := 1, constantValue := 0 }, { name := "TYPE", type := (.object "java/lang/Class"), accessFlags := 25, slot := 2, constantValue := 0 }, { name := "value", type := .long, accessFlags := 18, slot := 0, constantValue := 0 }, { name := "SIZE", type := .int, accessFlags := 25, slot := 3, constantValue := 0 }, { name := "BYTES", type := .int, accessFlags := 25, slot := 4, constantValue := 0 }, { name := "serialVersionUID", type := .long, accessFlags := 26, slot := 5, constantValue := 0 }]
  methods := #[k10m0]
  instanceTypes := #[.long]
  staticTypes := #[.long, .long, (.object "java/lang/Class"), .int, .int, .long]
  resolved := Array.replicate 524 none
  statics := none }

def pool11 : Array CpInfo := pool [(1, .class_ 2), (0, u "java/lang/Integer"), (16, u "digits"), (0, u "[C"), (32, u "numberOfLeadingZeros"), (0, u "(I)I"), (30, u "DigitOnes"), (0, u "[B"), (2, u "DigitTens"), (99, .class_ 190), (0, u "java/lang/Integer$IntegerCache"), (3, u "I"), (8, .class_ 204), (0, u "java/lang/Number"), (2, u "value"), (56, .integer 65536), (37, u "TYPE"), (0, u "Ljava/lang/Class;"), (0, .class_ 305), (0, u "java/lang/Comparable"), (0, .class_ 307), (0, u "java/lang/constant/Constable"), (0, .class_ 309), (0, u "java/lang/constant/ConstantDesc"), (0, u "MIN_VALUE"), (1, u "MAX_VALUE"), (3, u "SIZE"), (1, u "BYTES"), (1, u "serialVersionUID"), (0, u "J")] 131

def k11c0 : Code := { maxStack := 3, maxLocals := 2, code := jdk_33_method_47_code, exceptionTable := #[], attributes := #[] }
def k11m0 : Method := { name := "numberOfLeadingZeros", desc := "(I)I", sig := { parameters := [.int], returnType := some .int }, accessFlags := 9, code := some k11c0 }
/-- java/lang/Integer -/
def k11 : Class := { plain "java/lang/Integer" (some 6) with
  accessFlags := 49
  interfaces := #[7, 8, 9]
  cf := some (fileOf pool11 1 #[.nestMembers #[189]] #[{ accessFlags := 9, nameIndex := 53, descriptorIndex := 54, attributes := #[] }] 49 203 #[304, 306, 308] #[{ accessFlags := 25, nameIndex := 310, descriptorIndex := 194, attributes := #[] }, { accessFlags := 25, nameIndex := 312, descriptorIndex := 194, attributes := #[] }, { accessFlags := 25, nameIndex := 302, descriptorIndex := 303, attributes := #[] }, { accessFlags := 24, nameIndex := 19, descriptorIndex := 20, attributes := #[] }, { accessFlags := 24, nameIndex := 89, descriptorIndex := 86, attributes := #[] }, { accessFlags := 24, nameIndex := 85, descriptorIndex := 86, attributes := #[] }, { accessFlags := 18, nameIndex := 207, descriptorIndex := 194, attributes := #[] }, { accessFlags := 25, nameIndex := 316, descriptorIndex := 194, attributes := #[] }, { accessFlags := 25, nameIndex := 318, descriptorIndex := 194, attributes := #[] }, { accessFlags := 26, nameIndex := 320, descriptorIndex := 321, attributes := #[] }])
  fields := #[{ name := "MIN_VALUE", type := .int, accessFlags := 25, slot := 0, constantValue := 0 }, { name := "MAX_VALUE", type := .int, accessFlags := 25, slot := 1, constantValue := 0 }, { name := "TYPE", type := (.object "java/lang/Class"), accessFlags := 25, slot := 2, constantValue := 0 }, { name := "digits", type := (.array .char), accessFlags := 24, slot := 3, constantValue := 0 }, { name := "DigitTens", type := (.array .byte), accessFlags := 24, slot := 4, constantValue := 0 }, { name := "DigitOnes", type := (.array .byte), accessFlags := 24, slot := 5, constantValue := 0 }, { name := "value", type := .int, accessFlags := 18, slot := 0, constantValue := 0 }, { name := "SIZE", type := .int, accessFlags := 25, slot := 6, constantValue := 0 }, { name := "BYTES", type := .int, accessFlags := 25, slot := 7, constantValue := 0 }, { name := "serialVersionUID", type := .long, accessFlags := 26, slot := 8, constantValue := 0 }]
  methods := #[k11m0]
  instanceTypes := #[.int]
  staticTypes := #[.int, .int, (.object "java/lang/Class"), (.array .char), (.array .byte), (.array .byte), .int, .int, .long]
  resolved := Array.replicate 453 none
  statics := none }

def pool12 : Array CpInfo := pool [(2, .class_ 4), (1, u "java/lang/Object"), (0, u "<init>"), (0, u "()V"), (7, .class_ 16), (1, u "java/util/Arrays"), (57, .class_ 76), (1, u "java/util/Arrays$NaturalOrder"), (36, .class_ 115), (1, u "java/util/Arrays$LegacyMergeSort"), (1, u "Z"), (32, .methodref 151 152), (0, .class_ 153), (0, .nameAndType 154 155), (0, u "java/lang/System"), (0, u "arraycopy"), (0, u "(Ljava/lang/Object;ILjava/lang/Object;II)V"), (146, u "copyOf"), (1, .methodref 305 306), (0, .class_ 307), (0, .nameAndType 308 309), (0, u "java/lang/Math"), (0, u "min"), (0, u "(II)I"), (65, .class_ 376), (0, u "java/util/Arrays$ArrayList"), (68, u "$assertionsDisabled"), (269, u "MIN_ARRAY_SORT_GRAN"), (0, u "I"), (2, u "INSERTIONSORT_THRESHOLD"), (151, u "([II)[I"), (103, .class_ 976), (0, u "java/util/Arrays$ArrayItr")] 52

def k12m0 : Method := { name := "<init>", desc := "()V", sig := { parameters := [], returnType := none }, accessFlags := 2, code := none }
def k12c1 : Code := { maxStack := 6, maxLocals := 3, code := jdk_65_method_123_code, exceptionTable := #[], attributes := #[] }
def k12m1 : Method := { name := "copyOf", desc := "([II)[I", sig := { parameters := [(.array .int), .int], returnType := some (.array .int) }, accessFlags := 9, code := some k12c1 }
/-- java/util/Arrays -/
def k12 : Class := { plain "java/util/Arrays" (some 0) with
  accessFlags := 49
  interfaces := #[]
  cf := some (fileOf pool12 14 #[.nestMembers #[975, 375, 113, 74]] #[{ accessFlags := 2, nameIndex := 5, descriptorIndex := 6, attributes := #[] }, { accessFlags := 9, nameIndex := 302, descriptorIndex := 871, attributes := #[] }] 49 2 #[] #[{ accessFlags := 26, nameIndex := 715, descriptorIndex := 716, attributes := #[] }, { accessFlags := 26, nameIndex := 719, descriptorIndex := 716, attributes := #[] }, { accessFlags := 4120, nameIndex := 445, descriptorIndex := 117, attributes := #[] }])
  fields := #[{ name := "MIN_ARRAY_SORT_GRAN", type := .int, accessFlags := 26, slot := 0, constantValue := 0 }, { name := "INSERTIONSORT_THRESHOLD", type := .int, accessFlags := 26, slot := 1, constantValue := 0 }, { name := "$assertionsDisabled", type := .boolean, accessFlags := 4120, slot := 2, constantValue := 0 }]
  methods := #[k12m0, k12m1]
  instanceTypes := #[]
  staticTypes := #[.int, .int, .boolean]
  resolved := Array.replicate 1029 none
  statics := none }

def pool13 : Array CpInfo := pool [(2, .class_ 4), (1, u "java/lang/Object"), (0, u "<init>"), (0, u "()V"), (1, .class_ 10), (1, u "java/lang/System"), (0, u "allowSecurityManager"), (0, u "I"), (16, u "cons"), (0, u "Ljava/io/Console;"), (77, .class_ 110), (1, u "java/lang/System$CallersHolder"), (43, u "initialErrStream"), (0, u "Ljava/io/PrintStream;"), (19, u "security"), (0, u "Ljava/lang/SecurityManager;"), (31, .class_ 209), (0, u "java/lang/System$1"), (7, u "props"), (0, u "Ljava/util/Properties;"), (2, u "lineSeparator"), (0, u "Ljava/lang/String;"), (96, .class_ 321), (1, u "java/lang/System$LoggerFinder"), (5, .class_ 328), (0, u "java/lang/System$Logger"), (67, u "err"), (2, u "out"), (91, u "notSupportedJnuEncoding"), (15, u "in"), (17, u "initialIn"), (0, u "Ljava/io/InputStream;"), (35, u "bootLayer"), (0, u "Ljava/lang/ModuleLayer;"), (99, .class_ 664), (0, u "java/lang/System$2"), (9, u "NEVER"), (2, u "MAYBE"), (49, u "arraycopy"), (0, u "(Ljava/lang/Object;ILjava/lang/Object;II)V"), (72, .class_ 802), (0, u "java/lang/System$Logger$Level")] 31

def k13m0 : Method := { name := "<init>", desc := "()V", sig := { parameters := [], returnType := none }, accessFlags := 2, code := none }
def k13m1 : Method := { name := "arraycopy", desc := "(Ljava/lang/Object;ILjava/lang/Object;II)V", sig := { parameters := [(.object "java/lang/Object"), .int, (.object "java/lang/Object"), .int, .int], returnType := none }, accessFlags := 265, code := none }
/-- java/lang/System -/
def k13 : Class := { plain "java/lang/System" (some 0) with
  accessFlags := 49
  interfaces := #[]
  cf := some (fileOf pool13 8 #[.nestMembers #[319, 327, 801, 108, 663, 208]] #[{ accessFlags := 2, nameIndex := 5, descriptorIndex := 6, attributes := #[] }, { accessFlags := 265, nameIndex := 727, descriptorIndex := 728, attributes := #[] }] 49 2 #[] #[{ accessFlags := 25, nameIndex := 507, descriptorIndex := 526, attributes := #[] }, { accessFlags := 25, nameIndex := 399, descriptorIndex := 155, attributes := #[] }, { accessFlags := 25, nameIndex := 396, descriptorIndex := 155, attributes := #[] }, { accessFlags := 10, nameIndex := 525, descriptorIndex := 526, attributes := #[] }, { accessFlags := 26, nameIndex := 674, descriptorIndex := 12, attributes := #[] }, { accessFlags := 26, nameIndex := 677, descriptorIndex := 12, attributes := #[] }, { accessFlags := 10, nameIndex := 11, descriptorIndex := 12, attributes := #[] }, { accessFlags := 74, nameIndex := 175, descriptorIndex := 176, attributes := #[] }, { accessFlags := 10, nameIndex := 491, descriptorIndex := 222, attributes := #[] }, { accessFlags := 74, nameIndex := 29, descriptorIndex := 30, attributes := #[] }, { accessFlags := 74, nameIndex := 154, descriptorIndex := 155, attributes := #[] }, { accessFlags := 10, nameIndex := 217, descriptorIndex := 218, attributes := #[] }, { accessFlags := 10, nameIndex := 221, descriptorIndex := 222, attributes := #[] }, { accessFlags := 8, nameIndex := 562, descriptorIndex := 563, attributes := #[] }])
  fields := #[{ name := "in", type := (.object "java/io/InputStream"), accessFlags := 25, slot := 0, constantValue := 0 }, { name := "out", type := (.object "java/io/PrintStream"), accessFlags := 25, slot := 1, constantValue := 0 }, { name := "err", type := (.object "java/io/PrintStream"), accessFlags := 25, slot := 2, constantValue := 0 }, { name := "initialIn", type := (.object "java/io/InputStream"), accessFlags := 10, slot := 3, constantValue := 0 }, { name := "NEVER", type := .int, accessFlags := 26, slot := 4, constantValue := 0 }, { name := "MAYBE", type := .int, accessFlags := 26, slot := 5, constantValue := 0 }, { name := "allowSecurityManager", type := .int, accessFlags := 10, slot := 6, constantValue := 0 }, { name := "security", type := (.object "java/lang/SecurityManager"), accessFlags := 74, slot := 7, constantValue := 0 }, { name := "notSupportedJnuEncoding", type := (.object "java/lang/String"), accessFlags := 10, slot := 8, constantValue := 0 }, { name := "cons", type := (.object "java/io/Console"), accessFlags := 74, slot := 9, constantValue := 0 }, { name := "initialErrStream", type := (.object "java/io/PrintStream"), accessFlags := 74, slot := 10, constantValue := 0 }, { name := "props", type := (.object "java/util/Properties"), accessFlags := 10, slot := 11, constantValue := 0 }, { name := "lineSeparator", type := (.object "java/lang/String"), accessFlags := 10, slot := 12, constantValue := 0 }, { name := "bootLayer", type := (.object "java/lang/ModuleLayer"), accessFlags := 8, slot := 13, constantValue := 0 }]
  methods := #[k13m0, k13m1]
  instanceTypes := #[]
  staticTypes := #[(.object "java/io/InputStream"), (.object "java/io/PrintStream"), (.object "java/io/PrintStream"), (.object "java/io/InputStream"), .int, .int, .int, (.object "java/lang/SecurityManager"), (.object "java/lang/String"), (.object "java/io/Console"), (.object "java/io/PrintStream"), (.object "java/util/Properties"), (.object "java/lang/String"), (.object "java/lang/ModuleLayer")]
  resolved := Array.replicate 834 none
  statics := none }

/-- the primitive byte -/
def k14 : Class := { plain "byte" none with kind := .primitive 'B', accessFlags := 0x411 }
/-- [B -/
def k15 : Class := { plain "[B" (some 0) with kind := .array 14 .byte, interfaces := #[4, 5], accessFlags := 1041 }

/-- the primitive int -/
def k16 : Class := { plain "int" none with kind := .primitive 'I', accessFlags := 0x411 }
/-- [I -/
def k17 : Class := { plain "[I" (some 0) with kind := .array 16 .int, interfaces := #[4, 5], accessFlags := 1041 }

/-- the primitive long -/
def k18 : Class := { plain "long" none with kind := .primitive 'J', accessFlags := 0x411 }
/-- [J -/
def k19 : Class := { plain "[J" (some 0) with kind := .array 18 .long, interfaces := #[4, 5], accessFlags := 1041 }

def heap : Heap := #[]
def k20 : Class := { plain "[[J" (some 0) with kind := .array 19 (.array .long), interfaces := #[4, 5], accessFlags := 1041 }
def classes : Array Class := #[k0, k1, k2, k3, k4, k5, k6, k7, k8, k9, k10, k11, k12, k13, k14, k15, k16, k17, k18, k19, k20]
def interned : List (Array UInt16 × Addr) := []
def slotsUsed : Nat := 0
def theMethod : MethodId := ⟨1, 1⟩
def args0 : Array Value := #[.int 3, .int 4, .long 5, .long 6, .int 7]
def aboutOver (below : List Frame) : State where
  vm := { classes := classes, interned := interned.toArray }
  heap := heap
  slotsUsed := slotsUsed
  threads := #[{ frames := .invoking theMethod args0 :: below }]
def below0 : List Frame := [.native { method := ⟨0, 0⟩, args := #[] }]
def about1 : State := aboutOver below0
def p0 : Program := .bare "" "" ""
def e0 : Env := launch0.env 0 0 0
theorem w_frames : about1.frames = Frame.invoking theMethod args0 :: below0 := rfl
set_option maxRecDepth 65536 in
theorem w_args : argsFit about1.vm theMethod args0 = true := by decide +kernel
set_option maxRecDepth 65536 in
theorem w_heap : heapFits about1 = true := by decide +kernel
set_option maxRecDepth 65536 in
theorem w_runnable : about1.curStatus? = some .runnable := by decide +kernel
set_option maxRecDepth 65536 in
theorem w_alone : about1.alone = true := by decide +kernel
set_option maxRecDepth 65536 in
theorem w_named : about1.methodNamed? x = some theMethod := by decide +kernel
set_option maxRecDepth 65536 in
theorem w_hears : about1.hears theMethod below0 = true := by decide +kernel
set_option maxRecDepth 65536 in
theorem w_ripe : about1.ripe theMethod args0 below0 = true := by decide +kernel
theorem w_running : about1.status = .running := rfl
set_option maxRecDepth 65536 in
theorem w_room : about1.hasRoom e0.platform room_1 = true :=
  launch0.hasRoom_least _ room_1 (by decide +kernel) (by decide +kernel) (by decide +kernel) (by decide +kernel) (by decide +kernel) (by decide +kernel)
theorem allAtoms_all (ts : List Jvm.Cond) (a : Array Jvm.Value) (st : Jvm.State) : (allAtoms ts).before a st = ts.all (fun c => c.before a st) := by
  induction ts with
  | nil => rfl
  | cons c t ih =>
    show (Jvm.Cond.and c (allAtoms t)).before a st = _
    rw [Jvm.Cond.before_and, ih, List.all_cons]
def words1 : List Jvm.Cond := Jvm.Cond.code x code maxLocals ret :: tables_1
/-- a 'code' word, met by the world's own term for the bytes: nothing is compared byte by byte -/
theorem code_word {y : MethodName} {bytes : ByteArray} {mx : Nat} {rt : Option FieldType} {a : Array Value} {s : State} {m : MethodId} {meth : Method} {c : Code} (h1 : s.methodNamed? y = some m) (h2 : s.vm.method? m = some meth) (h3 : meth.code = some c) (h4 : c.code = bytes)
    (h5 : (c.maxLocals == mx && c.exceptionTable.isEmpty && decide (c.maxStack ≤ mostOperands) && decide (meth.sig.returnType = rt) && !meth.locks && decide (parseMethodDescriptor y.desc = some meth.sig)) = true) : (Jvm.Cond.code y bytes mx rt).before a s = true := by
  simp only [Bool.and_eq_true, beq_iff_eq, Bool.not_eq_true', decide_eq_true_eq] at h5
  obtain ⟨⟨⟨⟨⟨g1, g2⟩, g3⟩, g4⟩, g5⟩, g6⟩ := h5
  simp [Cond.before, Cond.holds, Cond.value, h1, h2, h3, h4, g1, g2, g3, g4, g5, g6]
def isCode : Jvm.Cond → Bool
  | .code _ _ _ _ => true
  | _ => false
theorem all_split {L : List Jvm.Cond} {P : Jvm.Cond → Bool} (h1 : L.all (fun c => isCode c || P c) = true) (h2 : ∀ c ∈ L.filter isCode, P c = true) : L.all P = true := by
  refine List.all_eq_true.mpr fun c hc => ?_
  have h := List.all_eq_true.mp h1 c hc
  rcases Bool.eq_false_or_eq_true (isCode c) with hi | hi
  · exact h2 c (List.mem_filter.mpr ⟨hc, hi⟩)
  · simpa [hi] using h
set_option maxRecDepth 65536 in
theorem w_c0 : (Jvm.Cond.code x code maxLocals ret).before args0 about1 = true := code_word (m := ⟨1, 1⟩) (meth := k1m1) (c := k1c1) (by decide +kernel) rfl rfl rfl (by decide +kernel)
set_option maxRecDepth 65536 in
theorem w_c1 : (Jvm.Cond.code ({ cls := "java/lang/Math", name := "min", desc := "(II)I" } : Jvm.MethodName) jdk_29_method_69_code (2 : Nat) (Option.some Jvm.ClassFile.FieldType.int)).before args0 about1 = true := code_word (m := ⟨2, 2⟩) (meth := k2m2) (c := k2c2) (by decide +kernel) rfl rfl rfl (by decide +kernel)
set_option maxRecDepth 65536 in
theorem w_c2 : (Jvm.Cond.code ({ cls := "java/lang/Math", name := "max", desc := "(II)I" } : Jvm.MethodName) jdk_29_method_65_code (2 : Nat) (Option.some Jvm.ClassFile.FieldType.int)).before args0 about1 = true := code_word (m := ⟨2, 1⟩) (meth := k2m1) (c := k2c1) (by decide +kernel) rfl rfl rfl (by decide +kernel)
set_option maxRecDepth 65536 in
theorem w_c3 : (Jvm.Cond.code ({ cls := "com/example/invariant/invariant/check/ConfigurationStore", name := "<init>", desc := "([I[II)V" } : Jvm.MethodName) prog_52_method_2_code (10 : Nat) (Option.none : Option Jvm.ClassFile.FieldType)).before args0 about1 = true := code_word (m := ⟨3, 0⟩) (meth := k3m0) (c := k3c0) (by decide +kernel) rfl rfl rfl (by decide +kernel)
set_option maxRecDepth 65536 in
theorem w_c4 : (Jvm.Cond.code ({ cls := "java/lang/Object", name := "<init>", desc := "()V" } : Jvm.MethodName) object_method_1_code (1 : Nat) (Option.none : Option Jvm.ClassFile.FieldType)).before args0 about1 = true := code_word (m := ⟨0, 0⟩) (meth := k0m0) (c := k0c0) (by decide +kernel) rfl rfl rfl (by decide +kernel)
set_option maxRecDepth 65536 in
theorem w_c5 : (Jvm.Cond.code ({ cls := "java/lang/Long", name := "numberOfLeadingZeros", desc := "(J)I" } : Jvm.MethodName) jdk_35_method_48_code (3 : Nat) (Option.some Jvm.ClassFile.FieldType.int)).before args0 about1 = true := code_word (m := ⟨10, 0⟩) (meth := k10m0) (c := k10c0) (by decide +kernel) rfl rfl rfl (by decide +kernel)
set_option maxRecDepth 65536 in
theorem w_c6 : (Jvm.Cond.code ({ cls := "java/lang/Integer", name := "numberOfLeadingZeros", desc := "(I)I" } : Jvm.MethodName) jdk_33_method_47_code (2 : Nat) (Option.some Jvm.ClassFile.FieldType.int)).before args0 about1 = true := code_word (m := ⟨11, 0⟩) (meth := k11m0) (c := k11c0) (by decide +kernel) rfl rfl rfl (by decide +kernel)
set_option maxRecDepth 65536 in
theorem w_c7 : (Jvm.Cond.code ({ cls := "java/util/Arrays", name := "copyOf", desc := "([II)[I" } : Jvm.MethodName) jdk_65_method_123_code (3 : Nat) (Option.some (Jvm.ClassFile.FieldType.array Jvm.ClassFile.FieldType.int))).before args0 about1 = true := code_word (m := ⟨12, 1⟩) (meth := k12m1) (c := k12c1) (by decide +kernel) rfl rfl rfl (by decide +kernel)
set_option maxRecDepth 65536 in
theorem w_c8 : (Jvm.Cond.code ({ cls := "com/example/invariant/invariant/check/ConfigurationStore", name := "add", desc := "([I)I" } : Jvm.MethodName) prog_52_method_7_code (2 : Nat) (Option.some Jvm.ClassFile.FieldType.int)).before args0 about1 = true := code_word (m := ⟨3, 2⟩) (meth := k3m2) (c := k3c2) (by decide +kernel) rfl rfl rfl (by decide +kernel)
set_option maxRecDepth 65536 in
theorem w_c9 : (Jvm.Cond.code ({ cls := "com/example/invariant/invariant/check/ConfigurationStore", name := "add", desc := "([ILjava/util/function/IntPredicate;)I" } : Jvm.MethodName) prog_52_method_8_code (8 : Nat) (Option.some Jvm.ClassFile.FieldType.int)).before args0 about1 = true := code_word (m := ⟨3, 3⟩) (meth := k3m3) (c := k3c3) (by decide +kernel) rfl rfl rfl (by decide +kernel)
set_option maxRecDepth 65536 in
theorem w_c10 : (Jvm.Cond.code ({ cls := "com/example/invariant/invariant/check/ConfigurationStore", name := "pack", desc := "([I)I" } : Jvm.MethodName) prog_52_method_14_code (9 : Nat) (Option.some Jvm.ClassFile.FieldType.int)).before args0 about1 = true := code_word (m := ⟨3, 8⟩) (meth := k3m8) (c := k3c8) (by decide +kernel) rfl rfl rfl (by decide +kernel)
set_option maxRecDepth 65536 in
theorem w_c11 : (Jvm.Cond.code ({ cls := "com/example/invariant/invariant/check/ConfigurationStore", name := "slot", desc := "(I)I" } : Jvm.MethodName) prog_52_method_15_code (4 : Nat) (Option.some Jvm.ClassFile.FieldType.int)).before args0 about1 = true := code_word (m := ⟨3, 9⟩) (meth := k3m9) (c := k3c9) (by decide +kernel) rfl rfl rfl (by decide +kernel)
set_option maxRecDepth 65536 in
theorem w_c12 : (Jvm.Cond.code ({ cls := "com/example/invariant/invariant/check/ConfigurationStore", name := "holder", desc := "(ILjava/util/function/IntPredicate;)I" } : Jvm.MethodName) prog_52_method_10_code (8 : Nat) (Option.some Jvm.ClassFile.FieldType.int)).before args0 about1 = true := code_word (m := ⟨3, 4⟩) (meth := k3m4) (c := k3c4) (by decide +kernel) rfl rfl rfl (by decide +kernel)
set_option maxRecDepth 65536 in
theorem w_c13 : (Jvm.Cond.code ({ cls := "com/example/invariant/invariant/check/ConfigurationStore", name := "capacity", desc := "()I" } : Jvm.MethodName) prog_52_method_3_code (1 : Nat) (Option.some Jvm.ClassFile.FieldType.int)).before args0 about1 = true := code_word (m := ⟨3, 1⟩) (meth := k3m1) (c := k3c1) (by decide +kernel) rfl rfl rfl (by decide +kernel)
set_option maxRecDepth 65536 in
theorem w_c14 : (Jvm.Cond.code ({ cls := "com/example/invariant/invariant/check/ConfigurationStore", name := "makeRoom", desc := "(II)V" } : Jvm.MethodName) prog_52_method_13_code (7 : Nat) (Option.none : Option Jvm.ClassFile.FieldType)).before args0 about1 = true := code_word (m := ⟨3, 7⟩) (meth := k3m7) (c := k3c7) (by decide +kernel) rfl rfl rfl (by decide +kernel)
set_option maxRecDepth 65536 in
theorem w_c15 : (Jvm.Cond.code ({ cls := "com/example/invariant/invariant/check/ConfigurationStore", name := "holdsPacked", desc := "(JI)Z" } : Jvm.MethodName) prog_52_method_16_code (8 : Nat) (Option.some Jvm.ClassFile.FieldType.boolean)).before args0 about1 = true := code_word (m := ⟨3, 10⟩) (meth := k3m10) (c := k3c10) (by decide +kernel) rfl rfl rfl (by decide +kernel)
set_option maxRecDepth 65536 in
theorem w_c16 : (Jvm.Cond.code site_346 prog_52_method_11_code (1 : Nat) (Option.none : Option Jvm.ClassFile.FieldType)).before args0 about1 = true := code_word (m := ⟨3, 5⟩) (meth := k3m5) (c := k3c5) (by decide +kernel) rfl rfl rfl (by decide +kernel)
set_option maxRecDepth 65536 in
theorem w_c17 : (Jvm.Cond.code ({ cls := "com/example/invariant/invariant/check/ConfigurationStore", name := "copy", desc := "(I[I)V" } : Jvm.MethodName) prog_52_method_12_code (9 : Nat) (Option.none : Option Jvm.ClassFile.FieldType)).before args0 about1 = true := code_word (m := ⟨3, 6⟩) (meth := k3m6) (c := k3c6) (by decide +kernel) rfl rfl rfl (by decide +kernel)
def codes1 : List Jvm.Cond := [Jvm.Cond.code x code maxLocals ret, Jvm.Cond.code ({ cls := "java/lang/Math", name := "min", desc := "(II)I" } : Jvm.MethodName) jdk_29_method_69_code (2 : Nat) (Option.some Jvm.ClassFile.FieldType.int), Jvm.Cond.code ({ cls := "java/lang/Math", name := "max", desc := "(II)I" } : Jvm.MethodName) jdk_29_method_65_code (2 : Nat) (Option.some Jvm.ClassFile.FieldType.int), Jvm.Cond.code ({ cls := "com/example/invariant/invariant/check/ConfigurationStore", name := "<init>", desc := "([I[II)V" } : Jvm.MethodName) prog_52_method_2_code (10 : Nat) (Option.none : Option Jvm.ClassFile.FieldType), Jvm.Cond.code ({ cls := "java/lang/Object", name := "<init>", desc := "()V" } : Jvm.MethodName) object_method_1_code (1 : Nat) (Option.none : Option Jvm.ClassFile.FieldType), Jvm.Cond.code ({ cls := "java/lang/Long", name := "numberOfLeadingZeros", desc := "(J)I" } : Jvm.MethodName) jdk_35_method_48_code (3 : Nat) (Option.some Jvm.ClassFile.FieldType.int), Jvm.Cond.code ({ cls := "java/lang/Integer", name := "numberOfLeadingZeros", desc := "(I)I" } : Jvm.MethodName) jdk_33_method_47_code (2 : Nat) (Option.some Jvm.ClassFile.FieldType.int), Jvm.Cond.code ({ cls := "java/util/Arrays", name := "copyOf", desc := "([II)[I" } : Jvm.MethodName) jdk_65_method_123_code (3 : Nat) (Option.some (Jvm.ClassFile.FieldType.array Jvm.ClassFile.FieldType.int)), Jvm.Cond.code ({ cls := "com/example/invariant/invariant/check/ConfigurationStore", name := "add", desc := "([I)I" } : Jvm.MethodName) prog_52_method_7_code (2 : Nat) (Option.some Jvm.ClassFile.FieldType.int), Jvm.Cond.code ({ cls := "com/example/invariant/invariant/check/ConfigurationStore", name := "add", desc := "([ILjava/util/function/IntPredicate;)I" } : Jvm.MethodName) prog_52_method_8_code (8 : Nat) (Option.some Jvm.ClassFile.FieldType.int), Jvm.Cond.code ({ cls := "com/example/invariant/invariant/check/ConfigurationStore", name := "pack", desc := "([I)I" } : Jvm.MethodName) prog_52_method_14_code (9 : Nat) (Option.some Jvm.ClassFile.FieldType.int), Jvm.Cond.code ({ cls := "com/example/invariant/invariant/check/ConfigurationStore", name := "slot", desc := "(I)I" } : Jvm.MethodName) prog_52_method_15_code (4 : Nat) (Option.some Jvm.ClassFile.FieldType.int), Jvm.Cond.code ({ cls := "com/example/invariant/invariant/check/ConfigurationStore", name := "holder", desc := "(ILjava/util/function/IntPredicate;)I" } : Jvm.MethodName) prog_52_method_10_code (8 : Nat) (Option.some Jvm.ClassFile.FieldType.int), Jvm.Cond.code ({ cls := "com/example/invariant/invariant/check/ConfigurationStore", name := "capacity", desc := "()I" } : Jvm.MethodName) prog_52_method_3_code (1 : Nat) (Option.some Jvm.ClassFile.FieldType.int), Jvm.Cond.code ({ cls := "com/example/invariant/invariant/check/ConfigurationStore", name := "makeRoom", desc := "(II)V" } : Jvm.MethodName) prog_52_method_13_code (7 : Nat) (Option.none : Option Jvm.ClassFile.FieldType), Jvm.Cond.code ({ cls := "com/example/invariant/invariant/check/ConfigurationStore", name := "holdsPacked", desc := "(JI)Z" } : Jvm.MethodName) prog_52_method_16_code (8 : Nat) (Option.some Jvm.ClassFile.FieldType.boolean), Jvm.Cond.code site_346 prog_52_method_11_code (1 : Nat) (Option.none : Option Jvm.ClassFile.FieldType), Jvm.Cond.code ({ cls := "com/example/invariant/invariant/check/ConfigurationStore", name := "copy", desc := "(I[I)V" } : Jvm.MethodName) prog_52_method_12_code (9 : Nat) (Option.none : Option Jvm.ClassFile.FieldType)]
set_option maxRecDepth 65536 in
theorem codes_eq : words1.filter isCode = codes1 := rfl
theorem w_codes : ∀ c ∈ words1.filter isCode, c.before args0 about1 = true := by
  rw [codes_eq]
  intro c hc
  simp only [codes1, List.mem_cons, List.not_mem_nil, or_false] at hc
  rcases hc with rfl | rfl | rfl | rfl | rfl | rfl | rfl | rfl | rfl | rfl | rfl | rfl | rfl | rfl | rfl | rfl | rfl | rfl
  · exact w_c0
  · exact w_c1
  · exact w_c2
  · exact w_c3
  · exact w_c4
  · exact w_c5
  · exact w_c6
  · exact w_c7
  · exact w_c8
  · exact w_c9
  · exact w_c10
  · exact w_c11
  · exact w_c12
  · exact w_c13
  · exact w_c14
  · exact w_c15
  · exact w_c16
  · exact w_c17
set_option maxRecDepth 65536 in
theorem w_t1 : (words1.take 24).all (fun c => isCode c || c.before args0 about1) = true := by decide +kernel
set_option maxRecDepth 65536 in
theorem w_t2 : ((words1.drop 24).take 24).all (fun c => isCode c || c.before args0 about1) = true := by decide +kernel
set_option maxRecDepth 65536 in
theorem w_t3 : (((words1.drop 24).drop 24).take 24).all (fun c => isCode c || c.before args0 about1) = true := by decide +kernel
set_option maxRecDepth 65536 in
theorem w_t4 : ((((words1.drop 24).drop 24).drop 24).take 24).all (fun c => isCode c || c.before args0 about1) = true := by decide +kernel
set_option maxRecDepth 65536 in
theorem w_t5 : (((((words1.drop 24).drop 24).drop 24).drop 24).take 24).all (fun c => isCode c || c.before args0 about1) = true := by decide +kernel
set_option maxRecDepth 65536 in
theorem w_t6 : (((((words1.drop 24).drop 24).drop 24).drop 24).drop 24).all (fun c => isCode c || c.before args0 about1) = true := by decide +kernel
theorem w_tables : (allAtoms (Jvm.Cond.code x code maxLocals ret :: tables_1)).before args0 about1 = true := by
  rw [allAtoms_all]
  show words1.all (fun c => c.before args0 about1) = true
  refine all_split ?_ w_codes
  rw [← List.take_append_drop 24 words1, List.all_append, w_t1, ← List.take_append_drop 24 (words1.drop 24), List.all_append, w_t2, ← List.take_append_drop 24 ((words1.drop 24).drop 24), List.all_append, w_t3, ← List.take_append_drop 24 (((words1.drop 24).drop 24).drop 24), List.all_append, w_t4, ← List.take_append_drop 24 ((((words1.drop 24).drop 24).drop 24).drop 24), List.all_append, w_t5, w_t6]
  rfl
set_option maxRecDepth 65536 in
theorem w_case : (Jvm.Cond.and given_1 narrow_1).before args0 about1 = true := by decide +kernel
theorem w_applies : (headSpec (Jvm.Cond.code x code maxLocals ret :: tables_1) room_1).applies x e0.platform about1 = true :=
  (Spec.applies_iff w_frames).mpr ⟨w_running, w_runnable, w_alone, w_named, w_hears, w_ripe, w_room, w_tables⟩
theorem atStart : AtStart classFile x code maxLocals ret World_1 tables_1 room_1 Calls_1 rest_1 Pre_1 launch0 p0 e0 about1 theMethod args0 below0 :=
  ⟨lists_1, trivial, launch0.admits_env _ _ _, launch0.least_env, fairChoices_fair.cas, fairChoices_fair.clock, w_frames, w_args, w_heap, w_applies, trivial, trivial, w_case⟩
end start1
theorem witness_1 : WitnessClaimed_1 := ⟨start1.p0, start1.e0, start1.about1, start1.theMethod, start1.args0, start1.below0, start1.atStart⟩
end Jvm.Pilot.@@N@@
