import JvmDerived
import JvmDerived.Pilot.@@N@@Statement
import JvmDerived.Pilot.@@N@@Code
set_option linter.unusedVariables false
set_option linter.unusedSimpArgs false
namespace Jvm.Pilot.@@N@@
open Jvm Jvm.ClassFile Sem Op Lib Jvm.Free Jvm.Stand Jvm.LawKit Jvm.RoadKit Bundle Jvm.Pilot.@@N@@.Jvm.D
section OwnGo
variable {p : Program} {l : Launch} {e : Env} {R : Room} {s : State} {m : MethodId} {args : Array Value} {below : List Frame} {meth : Method} {c : Code} {Z : State} {n0 kc ks : Nat} {Q : Option Value → Heap → Prop} {y : MethodName} {bytes : ByteArray} {maxL : Nat} {ret : Option FieldType} {h h' : Heap} {cs sl : Nat} {pc pc' : Nat} {Ls Ls' : Array Slot} {st : List Value} {a0 : Array Value}
def Ctx (p : Program) (s : State) (m : MethodId) (meth : Method) (c : Code) (Z : State) (y : MethodName) (bytes : ByteArray) (maxL : Nat) (ret : Option FieldType) : Prop :=
  p.tables.exec = Jvm.exec ∧ c.code = bytes ∧ c.maxLocals = maxL ∧ meth.sig.returnType = ret ∧ meth.locks = false ∧ Z.Warmed39 s.vm ∧ s.vm.findClass y.cls = some m.cls ∧ meth.name = y.name
def Go (p : Program) (l : Launch) (e : Env) (R : Room) (s : State) (m : MethodId) (args : Array Value) (below : List Frame) (meth : Method) (c : Code) (Z : State) (n0 : Nat) (Q : Option Value → Heap → Prop) (kc ks : Nat) (h : Heap) (cs sl : Nat) (g : JFrame) : Prop :=
  ∀ (T : State) (L : List Loc), Fr n0 L → Old Z n0 h → Stand p l e R s m args below meth c T L cs sl → T.heap = h →
    ∃ (U : State) (v : Option Value) (L' : List Loc), Steps p.tables e below (T.setTop g) U ∧ U.status = .running ∧ Ended U below (.returned v) ∧ Fr n0 L' ∧ Old Z n0 U.heap ∧ s.WarmedH U.vm ∧ s.sameButNew ({ U with vm := s.vm } : State) L' kc ks ∧ Q v U.heap
def Met (l : Launch) (Z : State) (n0 : Nat) (y : MethodName) (bytes : ByteArray) (maxL : Nat) (ret : Option FieldType) (ws : List Jvm.Cond) (rm : Room) (as : Array Value) (h : Heap) (Q : Option Value → Heap → Prop) : Prop :=
  MetFree l y (head1 (Jvm.Cond.code y bytes maxL ret :: ws) rm) (fun a U => a = as ∧ Z.Warmed39 U.vm ∧ U.heap = h) (fun _ _ _ _ _ => True) (fun _ U o U' => ∃ v L, o = .returned v ∧ (Fr n0 L ∧ Old Z n0 U'.heap ∧ Q v U'.heap) ∧ FrameEnd U o U' L rm.cells rm.slots)
theorem met_of {ws : List Jvm.Cond} {rm : Room} {as : Array Value} (hpl : plainFor y = true) (hef : ∀ m, entryFrame m as maxL = mkF m 0 Ls []) (O : Old Z n0 h)
    (body : ∀ p e s m below meth c, Ctx p s m meth c Z y bytes maxL ret → Go p l e rm s m as below meth c Z n0 Q rm.cells rm.slots h 0 0 (mkF m 0 Ls [])) : Met l Z n0 y bytes maxL ret ws rm as h Q := by
  refine MetFree.of_bodySF hpl hisR ?_
  intro p e s m args below meth c s₁ Bd hml hP hK
  obtain ⟨rfl, hZ, hh⟩ := hP
  have X0 := Stand.of_body Bd
  obtain ⟨U, v, L', h1, h2, h3, h4, h5, h6, h7, h8⟩ := body p e s m below meth c ⟨Bd.exec, Bd.bytes, hml, Bd.returns, Bd.notSynchronized, hZ, findClass_of_methodNamed Bd.named, (name_of_methodNamed Bd.named Bd.method).1⟩ s₁ [] (Fr.nil n0) O X0 (by rw [← hh, Bd.state]; rfl)
  exact ⟨U, _, castTop (hef m) h1, h2, h3, v, L', rfl, ⟨h4, h5, h8⟩, ⟨_, rfl⟩, h6, h7⟩
theorem Met.mono {ws : List Jvm.Cond} {rm : Room} {as : Array Value} {Q' : Option Value → Heap → Prop} (M : Met l Z n0 y bytes maxL ret ws rm as h Q) (q : ∀ v h', Q v h' → Q' v h') : Met l Z n0 y bytes maxL ret ws rm as h Q' := by
  unfold Met at M ⊢
  refine MetFree.mono M (fun _ _ h => h) (fun _ _ _ _ _ h => h) ?_
  rintro _ _ _ _ _ ⟨v, L, h1, ⟨h2, h3, h4⟩, h5⟩
  exact ⟨v, L, h1, ⟨h2, h3, q _ _ h4⟩, h5⟩
theorem go_step {g g' : JFrame} (K : Go p l e R s m args below meth c Z n0 Q kc ks h cs sl g') (hs : ∀ T t, At T m c below → Steps p.tables e below (T.setTop g') t → Steps p.tables e below (T.setTop g) t) : Go p l e R s m args below meth c Z n0 Q kc ks h cs sl g := fun T L hL O X eT => by
  obtain ⟨U, v, L', h1, r⟩ := K T L hL O X eT
  exact ⟨U, v, L', hs T U X.here h1, r⟩
theorem go_stepX {g g' : JFrame} (K : Go p l e R s m args below meth c Z n0 Q kc ks h cs sl g') (hs : ∀ T t L, Stand p l e R s m args below meth c T L cs sl → T.heap = h → Steps p.tables e below (T.setTop g') t → Steps p.tables e below (T.setTop g) t) : Go p l e R s m args below meth c Z n0 Q kc ks h cs sl g := fun T L hL O X eT => by
  obtain ⟨U, v, L', h1, r⟩ := K T L hL O X eT
  exact ⟨U, v, L', hs T U L X eT h1, r⟩
theorem go_stepT {g g' : JFrame} (K : Go p l e R s m args below meth c Z n0 Q kc ks h cs sl g') (hs : ∀ T L, Stand p l e R s m args below meth c T L cs sl → T.heap = h → ∃ T', Stand p l e R s m args below meth c T' L cs sl ∧ T'.heap = h ∧ ∀ t, Steps p.tables e below (T'.setTop g') t → Steps p.tables e below (T.setTop g) t) : Go p l e R s m args below meth c Z n0 Q kc ks h cs sl g := fun T L hL O X eT => by
  obtain ⟨T', X', e', hs'⟩ := hs T L X eT
  obtain ⟨U, v, L', h1, r⟩ := K T' L hL O X' e'
  exact ⟨U, v, L', hs' U h1, r⟩
theorem go_old {g : JFrame} (K : Old Z n0 h → Go p l e R s m args below meth c Z n0 Q kc ks h cs sl g) : Go p l e R s m args below meth c Z n0 Q kc ks h cs sl g := fun T L hL O => K O T L hL O
theorem go_more {g : JFrame} {cs' sl' : Nat} (hc : cs ≤ cs') (hs : sl ≤ sl') (K : Go p l e R s m args below meth c Z n0 Q kc ks h cs' sl' g) : Go p l e R s m args below meth c Z n0 Q kc ks h cs sl g := fun T L hL O X eT => K T L hL O (X.more hc hs) eT
theorem go_st {st' : List Value} (e0 : st = st') (K : Go p l e R s m args below meth c Z n0 Q kc ks h cs sl (mkF m pc Ls st')) : Go p l e R s m args below meth c Z n0 Q kc ks h cs sl (mkF m pc Ls st) := e0 ▸ K
theorem go_ls (e0 : Ls = Ls') (K : Go p l e R s m args below meth c Z n0 Q kc ks h cs sl (mkF m pc Ls' st)) : Go p l e R s m args below meth c Z n0 Q kc ks h cs sl (mkF m pc Ls st) := e0 ▸ K
theorem go_h {h' : Heap} {g : JFrame} (e0 : h = h') (K : Go p l e R s m args below meth c Z n0 Q kc ks h' cs sl g) : Go p l e R s m args below meth c Z n0 Q kc ks h cs sl g := e0 ▸ K
theorem go_iload (C : Ctx p s m meth c Z y bytes maxL ret) {k : Nat} {x : Int32} (hd : decode bytes pc = .ok (.iload k, 2)) (hl : Ls[k]? = some (.val (.int x))) (hp : pc + 2 = pc') (K : Go p l e R s m args below meth c Z n0 Q kc ks h cs sl (mkF m pc' Ls (.int x :: st))) : Go p l e R s m args below meth c Z n0 Q kc ks h cs sl (mkF m pc Ls (st)) := by
  subst hp
  exact go_step K fun T t a k => XS.iload a C.1 rfl (hb C.2.1 hd) hl k
theorem go_iloadN (C : Ctx p s m meth c Z y bytes maxL ret) {k : Fin 4} {x : Int32} (hd : decode bytes pc = .ok (.iload_n k, 1)) (hl : Ls[k.val]? = some (.val (.int x))) (hp : pc + 1 = pc') (K : Go p l e R s m args below meth c Z n0 Q kc ks h cs sl (mkF m pc' Ls (.int x :: st))) : Go p l e R s m args below meth c Z n0 Q kc ks h cs sl (mkF m pc Ls (st)) := by
  subst hp
  exact go_step K fun T t a k => XS.iloadN a C.1 rfl (hb C.2.1 hd) hl k
theorem go_lload (C : Ctx p s m meth c Z y bytes maxL ret) {k : Nat} {x : Int64} (hd : decode bytes pc = .ok (.lload k, 2)) (hl : Ls[k]? = some (.val (.long x))) (hp : pc + 2 = pc') (K : Go p l e R s m args below meth c Z n0 Q kc ks h cs sl (mkF m pc' Ls (.long x :: st))) : Go p l e R s m args below meth c Z n0 Q kc ks h cs sl (mkF m pc Ls (st)) := by
  subst hp
  exact go_step K fun T t a k => XS.lload a C.1 rfl (hb C.2.1 hd) hl k
theorem go_lloadN (C : Ctx p s m meth c Z y bytes maxL ret) {k : Fin 4} {x : Int64} (hd : decode bytes pc = .ok (.lload_n k, 1)) (hl : Ls[k.val]? = some (.val (.long x))) (hp : pc + 1 = pc') (K : Go p l e R s m args below meth c Z n0 Q kc ks h cs sl (mkF m pc' Ls (.long x :: st))) : Go p l e R s m args below meth c Z n0 Q kc ks h cs sl (mkF m pc Ls (st)) := by
  subst hp
  exact go_step K fun T t a k => XS.lloadN a C.1 rfl (hb C.2.1 hd) hl k
theorem go_aload (C : Ctx p s m meth c Z y bytes maxL ret) {k : Nat} {v : Value} (hd : decode bytes pc = .ok (.aload k, 2)) (hl : Ls[k]? = some (.val v)) (hv : v.isRef = true) (hp : pc + 2 = pc') (K : Go p l e R s m args below meth c Z n0 Q kc ks h cs sl (mkF m pc' Ls (v :: st))) : Go p l e R s m args below meth c Z n0 Q kc ks h cs sl (mkF m pc Ls (st)) := by
  subst hp
  exact go_step K fun T t a k => XS.aload a C.1 rfl (hb C.2.1 hd) hl hv k
theorem go_aloadN (C : Ctx p s m meth c Z y bytes maxL ret) {k : Fin 4} {v : Value} (hd : decode bytes pc = .ok (.aload_n k, 1)) (hl : Ls[k.val]? = some (.val v)) (hv : v.isRef = true) (hp : pc + 1 = pc') (K : Go p l e R s m args below meth c Z n0 Q kc ks h cs sl (mkF m pc' Ls (v :: st))) : Go p l e R s m args below meth c Z n0 Q kc ks h cs sl (mkF m pc Ls (st)) := by
  subst hp
  exact go_step K fun T t a k => XS.aloadN a C.1 rfl (hb C.2.1 hd) hl hv k
theorem go_istore (C : Ctx p s m meth c Z y bytes maxL ret) {k : Nat} {x : Int32} (hd : decode bytes pc = .ok (.istore k, 2)) (hl : storeLocals Ls k (.int x) = some Ls') (hp : pc + 2 = pc') (K : Go p l e R s m args below meth c Z n0 Q kc ks h cs sl (mkF m pc' Ls' (st))) : Go p l e R s m args below meth c Z n0 Q kc ks h cs sl (mkF m pc Ls (.int x :: st)) := by
  subst hp
  exact go_step K fun T t a k => XS.istore a C.1 rfl (hb C.2.1 hd) rfl hl k
theorem go_istoreN (C : Ctx p s m meth c Z y bytes maxL ret) {k : Fin 4} {x : Int32} (hd : decode bytes pc = .ok (.istore_n k, 1)) (hl : storeLocals Ls k.val (.int x) = some Ls') (hp : pc + 1 = pc') (K : Go p l e R s m args below meth c Z n0 Q kc ks h cs sl (mkF m pc' Ls' (st))) : Go p l e R s m args below meth c Z n0 Q kc ks h cs sl (mkF m pc Ls (.int x :: st)) := by
  subst hp
  exact go_step K fun T t a k => XS.istoreN a C.1 rfl (hb C.2.1 hd) rfl hl k
theorem go_lstore (C : Ctx p s m meth c Z y bytes maxL ret) {k : Nat} {x : Int64} (hd : decode bytes pc = .ok (.lstore k, 2)) (hl : storeLocals Ls k (.long x) = some Ls') (hp : pc + 2 = pc') (K : Go p l e R s m args below meth c Z n0 Q kc ks h cs sl (mkF m pc' Ls' (st))) : Go p l e R s m args below meth c Z n0 Q kc ks h cs sl (mkF m pc Ls (.long x :: st)) := by
  subst hp
  exact go_step K fun T t a k => XS.lstore a C.1 rfl (hb C.2.1 hd) rfl hl k
theorem go_lstoreN (C : Ctx p s m meth c Z y bytes maxL ret) {k : Fin 4} {x : Int64} (hd : decode bytes pc = .ok (.lstore_n k, 1)) (hl : storeLocals Ls k.val (.long x) = some Ls') (hp : pc + 1 = pc') (K : Go p l e R s m args below meth c Z n0 Q kc ks h cs sl (mkF m pc' Ls' (st))) : Go p l e R s m args below meth c Z n0 Q kc ks h cs sl (mkF m pc Ls (.long x :: st)) := by
  subst hp
  exact go_step K fun T t a k => XS.lstoreN a C.1 rfl (hb C.2.1 hd) rfl hl k
theorem go_astore (C : Ctx p s m meth c Z y bytes maxL ret) {k : Nat} {v : Value} (hd : decode bytes pc = .ok (.astore k, 2)) (hv : v.isRef = true) (hl : storeLocals Ls k v = some Ls') (hp : pc + 2 = pc') (K : Go p l e R s m args below meth c Z n0 Q kc ks h cs sl (mkF m pc' Ls' (st))) : Go p l e R s m args below meth c Z n0 Q kc ks h cs sl (mkF m pc Ls (v :: st)) := by
  subst hp
  exact go_step K fun T t a k => XS.astore a C.1 rfl (hb C.2.1 hd) rfl hv hl k
theorem go_astoreN (C : Ctx p s m meth c Z y bytes maxL ret) {k : Fin 4} {v : Value} (hd : decode bytes pc = .ok (.astore_n k, 1)) (hv : v.isRef = true) (hl : storeLocals Ls k.val v = some Ls') (hp : pc + 1 = pc') (K : Go p l e R s m args below meth c Z n0 Q kc ks h cs sl (mkF m pc' Ls' (st))) : Go p l e R s m args below meth c Z n0 Q kc ks h cs sl (mkF m pc Ls (v :: st)) := by
  subst hp
  exact go_step K fun T t a k => XS.astoreN a C.1 rfl (hb C.2.1 hd) rfl hv hl k
theorem go_iinc (C : Ctx p s m meth c Z y bytes maxL ret) {k : Nat} {cst : Int} {x : Int32} (hd : decode bytes pc = .ok (.iinc k cst, 3)) (hl : Ls[k]? = some (.val (.int x))) (hl' : storeLocals Ls k (.int (x + Int32.ofInt cst)) = some Ls') (hp : pc + 3 = pc') (K : Go p l e R s m args below meth c Z n0 Q kc ks h cs sl (mkF m pc' Ls' (st))) : Go p l e R s m args below meth c Z n0 Q kc ks h cs sl (mkF m pc Ls (st)) := by
  subst hp
  exact go_step K fun T t a k => XS.iinc a C.1 rfl (hb C.2.1 hd) hl hl' k
theorem go_iconst (C : Ctx p s m meth c Z y bytes maxL ret) {i : Int} {z : Int32} (hd : decode bytes pc = .ok (.iconst i, 1)) (hz : Int32.ofInt i = z) (hp : pc + 1 = pc') (K : Go p l e R s m args below meth c Z n0 Q kc ks h cs sl (mkF m pc' Ls (.int z :: st))) : Go p l e R s m args below meth c Z n0 Q kc ks h cs sl (mkF m pc Ls (st)) := by
  subst hp hz
  exact go_step K fun T t a k => XS.iconst a C.1 rfl (hb C.2.1 hd) k
theorem go_bipush (C : Ctx p s m meth c Z y bytes maxL ret) {i : Int} {z : Int32} (hd : decode bytes pc = .ok (.bipush i, 2)) (hz : (Int8.ofInt i).toInt32 = z) (hp : pc + 2 = pc') (K : Go p l e R s m args below meth c Z n0 Q kc ks h cs sl (mkF m pc' Ls (.int z :: st))) : Go p l e R s m args below meth c Z n0 Q kc ks h cs sl (mkF m pc Ls (st)) := by
  subst hp hz
  exact go_step K fun T t a k => XS.bipush a C.1 rfl (hb C.2.1 hd) k
theorem go_sipush (C : Ctx p s m meth c Z y bytes maxL ret) {i : Int} {z : Int32} (hd : decode bytes pc = .ok (.sipush i, 3)) (hz : (Int16.ofInt i).toInt32 = z) (hp : pc + 3 = pc') (K : Go p l e R s m args below meth c Z n0 Q kc ks h cs sl (mkF m pc' Ls (.int z :: st))) : Go p l e R s m args below meth c Z n0 Q kc ks h cs sl (mkF m pc Ls (st)) := by
  subst hp hz
  exact go_step K fun T t a k => XS.sipush a C.1 rfl (hb C.2.1 hd) k
theorem go_lconst (C : Ctx p s m meth c Z y bytes maxL ret) {k : Fin 2} {z : Int64} (hd : decode bytes pc = .ok (.lconst k, 1)) (hz : Int64.ofNat k = z) (hp : pc + 1 = pc') (K : Go p l e R s m args below meth c Z n0 Q kc ks h cs sl (mkF m pc' Ls (.long z :: st))) : Go p l e R s m args below meth c Z n0 Q kc ks h cs sl (mkF m pc Ls (st)) := by
  subst hp hz
  exact go_step K fun T t a k => XS.lconst a C.1 rfl (hb C.2.1 hd) k
theorem go_aconstNull (C : Ctx p s m meth c Z y bytes maxL ret)  (hd : decode bytes pc = .ok (.aconst_null, 1))  (hp : pc + 1 = pc') (K : Go p l e R s m args below meth c Z n0 Q kc ks h cs sl (mkF m pc' Ls (.null :: st))) : Go p l e R s m args below meth c Z n0 Q kc ks h cs sl (mkF m pc Ls (st)) := by
  subst hp
  exact go_step K fun T t a k => XS.aconstNull a C.1 rfl (hb C.2.1 hd) k
theorem go_iadd (C : Ctx p s m meth c Z y bytes maxL ret) {x y : Int32} (hd : decode bytes pc = .ok (.iadd, 1))  (hp : pc + 1 = pc') (K : Go p l e R s m args below meth c Z n0 Q kc ks h cs sl (mkF m pc' Ls (.int (x + y) :: st))) : Go p l e R s m args below meth c Z n0 Q kc ks h cs sl (mkF m pc Ls (.int y :: .int x :: st)) := by
  subst hp
  exact go_step K fun T t a k => XS.iadd a C.1 rfl (hb C.2.1 hd) rfl k
theorem go_ladd (C : Ctx p s m meth c Z y bytes maxL ret) {x y : Int64} (hd : decode bytes pc = .ok (.ladd, 1))  (hp : pc + 1 = pc') (K : Go p l e R s m args below meth c Z n0 Q kc ks h cs sl (mkF m pc' Ls (.long (x + y) :: st))) : Go p l e R s m args below meth c Z n0 Q kc ks h cs sl (mkF m pc Ls (.long y :: .long x :: st)) := by
  subst hp
  exact go_step K fun T t a k => XS.ladd a C.1 rfl (hb C.2.1 hd) rfl k
theorem go_isub (C : Ctx p s m meth c Z y bytes maxL ret) {x y : Int32} (hd : decode bytes pc = .ok (.isub, 1))  (hp : pc + 1 = pc') (K : Go p l e R s m args below meth c Z n0 Q kc ks h cs sl (mkF m pc' Ls (.int (x - y) :: st))) : Go p l e R s m args below meth c Z n0 Q kc ks h cs sl (mkF m pc Ls (.int y :: .int x :: st)) := by
  subst hp
  exact go_step K fun T t a k => XS.isub a C.1 rfl (hb C.2.1 hd) rfl k
theorem go_lsub (C : Ctx p s m meth c Z y bytes maxL ret) {x y : Int64} (hd : decode bytes pc = .ok (.lsub, 1))  (hp : pc + 1 = pc') (K : Go p l e R s m args below meth c Z n0 Q kc ks h cs sl (mkF m pc' Ls (.long (x - y) :: st))) : Go p l e R s m args below meth c Z n0 Q kc ks h cs sl (mkF m pc Ls (.long y :: .long x :: st)) := by
  subst hp
  exact go_step K fun T t a k => XS.lsub a C.1 rfl (hb C.2.1 hd) rfl k
theorem go_imul (C : Ctx p s m meth c Z y bytes maxL ret) {x y : Int32} (hd : decode bytes pc = .ok (.imul, 1))  (hp : pc + 1 = pc') (K : Go p l e R s m args below meth c Z n0 Q kc ks h cs sl (mkF m pc' Ls (.int (x * y) :: st))) : Go p l e R s m args below meth c Z n0 Q kc ks h cs sl (mkF m pc Ls (.int y :: .int x :: st)) := by
  subst hp
  exact go_step K fun T t a k => XS.imul a C.1 rfl (hb C.2.1 hd) rfl k
theorem go_lmul (C : Ctx p s m meth c Z y bytes maxL ret) {x y : Int64} (hd : decode bytes pc = .ok (.lmul, 1))  (hp : pc + 1 = pc') (K : Go p l e R s m args below meth c Z n0 Q kc ks h cs sl (mkF m pc' Ls (.long (x * y) :: st))) : Go p l e R s m args below meth c Z n0 Q kc ks h cs sl (mkF m pc Ls (.long y :: .long x :: st)) := by
  subst hp
  exact go_step K fun T t a k => XS.lmul a C.1 rfl (hb C.2.1 hd) rfl k
theorem go_iand (C : Ctx p s m meth c Z y bytes maxL ret) {x y : Int32} (hd : decode bytes pc = .ok (.iand, 1))  (hp : pc + 1 = pc') (K : Go p l e R s m args below meth c Z n0 Q kc ks h cs sl (mkF m pc' Ls (.int (x &&& y) :: st))) : Go p l e R s m args below meth c Z n0 Q kc ks h cs sl (mkF m pc Ls (.int y :: .int x :: st)) := by
  subst hp
  exact go_step K fun T t a k => XS.iand a C.1 rfl (hb C.2.1 hd) rfl k
theorem go_land (C : Ctx p s m meth c Z y bytes maxL ret) {x y : Int64} (hd : decode bytes pc = .ok (.land, 1))  (hp : pc + 1 = pc') (K : Go p l e R s m args below meth c Z n0 Q kc ks h cs sl (mkF m pc' Ls (.long (x &&& y) :: st))) : Go p l e R s m args below meth c Z n0 Q kc ks h cs sl (mkF m pc Ls (.long y :: .long x :: st)) := by
  subst hp
  exact go_step K fun T t a k => XS.land a C.1 rfl (hb C.2.1 hd) rfl k
theorem go_ior (C : Ctx p s m meth c Z y bytes maxL ret) {x y : Int32} (hd : decode bytes pc = .ok (.ior, 1))  (hp : pc + 1 = pc') (K : Go p l e R s m args below meth c Z n0 Q kc ks h cs sl (mkF m pc' Ls (.int (x ||| y) :: st))) : Go p l e R s m args below meth c Z n0 Q kc ks h cs sl (mkF m pc Ls (.int y :: .int x :: st)) := by
  subst hp
  exact go_step K fun T t a k => XS.ior a C.1 rfl (hb C.2.1 hd) rfl k
theorem go_lor (C : Ctx p s m meth c Z y bytes maxL ret) {x y : Int64} (hd : decode bytes pc = .ok (.lor, 1))  (hp : pc + 1 = pc') (K : Go p l e R s m args below meth c Z n0 Q kc ks h cs sl (mkF m pc' Ls (.long (x ||| y) :: st))) : Go p l e R s m args below meth c Z n0 Q kc ks h cs sl (mkF m pc Ls (.long y :: .long x :: st)) := by
  subst hp
  exact go_step K fun T t a k => XS.lor a C.1 rfl (hb C.2.1 hd) rfl k
theorem go_ixor (C : Ctx p s m meth c Z y bytes maxL ret) {x y : Int32} (hd : decode bytes pc = .ok (.ixor, 1))  (hp : pc + 1 = pc') (K : Go p l e R s m args below meth c Z n0 Q kc ks h cs sl (mkF m pc' Ls (.int (x ^^^ y) :: st))) : Go p l e R s m args below meth c Z n0 Q kc ks h cs sl (mkF m pc Ls (.int y :: .int x :: st)) := by
  subst hp
  exact go_step K fun T t a k => XS.ixor a C.1 rfl (hb C.2.1 hd) rfl k
theorem go_lxor (C : Ctx p s m meth c Z y bytes maxL ret) {x y : Int64} (hd : decode bytes pc = .ok (.lxor, 1))  (hp : pc + 1 = pc') (K : Go p l e R s m args below meth c Z n0 Q kc ks h cs sl (mkF m pc' Ls (.long (x ^^^ y) :: st))) : Go p l e R s m args below meth c Z n0 Q kc ks h cs sl (mkF m pc Ls (.long y :: .long x :: st)) := by
  subst hp
  exact go_step K fun T t a k => XS.lxor a C.1 rfl (hb C.2.1 hd) rfl k
theorem go_ishl (C : Ctx p s m meth c Z y bytes maxL ret) {x y : Int32} (hd : decode bytes pc = .ok (.ishl, 1))  (hp : pc + 1 = pc') (K : Go p l e R s m args below meth c Z n0 Q kc ks h cs sl (mkF m pc' Ls (.int (x <<< (y &&& 31)) :: st))) : Go p l e R s m args below meth c Z n0 Q kc ks h cs sl (mkF m pc Ls (.int y :: .int x :: st)) := by
  subst hp
  exact go_step K fun T t a k => XS.ishl a C.1 rfl (hb C.2.1 hd) rfl k
theorem go_ishr (C : Ctx p s m meth c Z y bytes maxL ret) {x y : Int32} (hd : decode bytes pc = .ok (.ishr, 1))  (hp : pc + 1 = pc') (K : Go p l e R s m args below meth c Z n0 Q kc ks h cs sl (mkF m pc' Ls (.int (x >>> (y &&& 31)) :: st))) : Go p l e R s m args below meth c Z n0 Q kc ks h cs sl (mkF m pc Ls (.int y :: .int x :: st)) := by
  subst hp
  exact go_step K fun T t a k => XS.ishr a C.1 rfl (hb C.2.1 hd) rfl k
theorem go_iushr (C : Ctx p s m meth c Z y bytes maxL ret) {x y : Int32} (hd : decode bytes pc = .ok (.iushr, 1))  (hp : pc + 1 = pc') (K : Go p l e R s m args below meth c Z n0 Q kc ks h cs sl (mkF m pc' Ls (.int ((x.toUInt32 >>> (y &&& 31).toUInt32).toInt32) :: st))) : Go p l e R s m args below meth c Z n0 Q kc ks h cs sl (mkF m pc Ls (.int y :: .int x :: st)) := by
  subst hp
  exact go_step K fun T t a k => XS.iushr a C.1 rfl (hb C.2.1 hd) rfl k
theorem go_lshl (C : Ctx p s m meth c Z y bytes maxL ret) {x : Int64} {y' : Int32} (hd : decode bytes pc = .ok (.lshl, 1))  (hp : pc + 1 = pc') (K : Go p l e R s m args below meth c Z n0 Q kc ks h cs sl (mkF m pc' Ls (.long (x <<< (y' &&& 0x3f).toInt64) :: st))) : Go p l e R s m args below meth c Z n0 Q kc ks h cs sl (mkF m pc Ls (.int y' :: .long x :: st)) := by
  subst hp
  exact go_step K fun T t a k => XS.lshl a C.1 rfl (hb C.2.1 hd) rfl k
theorem go_lshr (C : Ctx p s m meth c Z y bytes maxL ret) {x : Int64} {y' : Int32} (hd : decode bytes pc = .ok (.lshr, 1))  (hp : pc + 1 = pc') (K : Go p l e R s m args below meth c Z n0 Q kc ks h cs sl (mkF m pc' Ls (.long (x >>> (y' &&& 0x3f).toInt64) :: st))) : Go p l e R s m args below meth c Z n0 Q kc ks h cs sl (mkF m pc Ls (.int y' :: .long x :: st)) := by
  subst hp
  exact go_step K fun T t a k => XS.lshr a C.1 rfl (hb C.2.1 hd) rfl k
theorem go_lushr (C : Ctx p s m meth c Z y bytes maxL ret) {x : Int64} {y' : Int32} (hd : decode bytes pc = .ok (.lushr, 1))  (hp : pc + 1 = pc') (K : Go p l e R s m args below meth c Z n0 Q kc ks h cs sl (mkF m pc' Ls (.long ((x.toUInt64 >>> (y' &&& 0x3f).toInt64.toUInt64).toInt64) :: st))) : Go p l e R s m args below meth c Z n0 Q kc ks h cs sl (mkF m pc Ls (.int y' :: .long x :: st)) := by
  subst hp
  exact go_step K fun T t a k => XS.lushr a C.1 rfl (hb C.2.1 hd) rfl k
theorem go_lcmp (C : Ctx p s m meth c Z y bytes maxL ret) {x y' : Int64} (hd : decode bytes pc = .ok (.lcmp, 1))  (hp : pc + 1 = pc') (K : Go p l e R s m args below meth c Z n0 Q kc ks h cs sl (mkF m pc' Ls (.int (lcmpW x y') :: st))) : Go p l e R s m args below meth c Z n0 Q kc ks h cs sl (mkF m pc Ls (.long y' :: .long x :: st)) := by
  subst hp
  exact go_step K fun T t a k => XS.lcmp a C.1 rfl (hb C.2.1 hd) rfl k
theorem go_idiv (C : Ctx p s m meth c Z y bytes maxL ret) {x y' : Int32} (hd : decode bytes pc = .ok (.idiv, 1)) (hy : y' ≠ 0) (hp : pc + 1 = pc') (K : Go p l e R s m args below meth c Z n0 Q kc ks h cs sl (mkF m pc' Ls (.int (x / y') :: st))) : Go p l e R s m args below meth c Z n0 Q kc ks h cs sl (mkF m pc Ls (.int y' :: .int x :: st)) := by
  subst hp
  exact go_step K fun T t a k => XS.idiv a C.1 rfl (hb C.2.1 hd) rfl hy k
theorem go_ldiv (C : Ctx p s m meth c Z y bytes maxL ret) {x y' : Int64} (hd : decode bytes pc = .ok (.ldiv, 1)) (hy : y' ≠ 0) (hp : pc + 1 = pc') (K : Go p l e R s m args below meth c Z n0 Q kc ks h cs sl (mkF m pc' Ls (.long (x / y') :: st))) : Go p l e R s m args below meth c Z n0 Q kc ks h cs sl (mkF m pc Ls (.long y' :: .long x :: st)) := by
  subst hp
  exact go_step K fun T t a k => XS.ldiv a C.1 rfl (hb C.2.1 hd) rfl hy k
theorem go_irem (C : Ctx p s m meth c Z y bytes maxL ret) {x y' : Int32} (hd : decode bytes pc = .ok (.irem, 1)) (hy : y' ≠ 0) (hp : pc + 1 = pc') (K : Go p l e R s m args below meth c Z n0 Q kc ks h cs sl (mkF m pc' Ls (.int (x % y') :: st))) : Go p l e R s m args below meth c Z n0 Q kc ks h cs sl (mkF m pc Ls (.int y' :: .int x :: st)) := by
  subst hp
  exact go_step K fun T t a k => XS.irem a C.1 rfl (hb C.2.1 hd) rfl hy (by rw [irem_eq_mod]; exact k)
theorem go_lrem (C : Ctx p s m meth c Z y bytes maxL ret) {x y' : Int64} (hd : decode bytes pc = .ok (.lrem, 1)) (hy : y' ≠ 0) (hp : pc + 1 = pc') (K : Go p l e R s m args below meth c Z n0 Q kc ks h cs sl (mkF m pc' Ls (.long (x % y') :: st))) : Go p l e R s m args below meth c Z n0 Q kc ks h cs sl (mkF m pc Ls (.long y' :: .long x :: st)) := by
  subst hp
  exact go_step K fun T t a k => XS.lrem a C.1 rfl (hb C.2.1 hd) rfl hy (by rw [lrem_mod]; exact k)
theorem go_ineg (C : Ctx p s m meth c Z y bytes maxL ret) {x : Int32} (hd : decode bytes pc = .ok (.ineg, 1))  (hp : pc + 1 = pc') (K : Go p l e R s m args below meth c Z n0 Q kc ks h cs sl (mkF m pc' Ls (.int (-x) :: st))) : Go p l e R s m args below meth c Z n0 Q kc ks h cs sl (mkF m pc Ls (.int x :: st)) := by
  subst hp
  exact go_step K fun T t a k => XS.ineg a C.1 rfl (hb C.2.1 hd) rfl k
theorem go_lneg (C : Ctx p s m meth c Z y bytes maxL ret) {x : Int64} (hd : decode bytes pc = .ok (.lneg, 1))  (hp : pc + 1 = pc') (K : Go p l e R s m args below meth c Z n0 Q kc ks h cs sl (mkF m pc' Ls (.long (-x) :: st))) : Go p l e R s m args below meth c Z n0 Q kc ks h cs sl (mkF m pc Ls (.long x :: st)) := by
  subst hp
  exact go_step K fun T t a k => XS.lneg a C.1 rfl (hb C.2.1 hd) rfl k
theorem go_i2l (C : Ctx p s m meth c Z y bytes maxL ret) {x : Int32} (hd : decode bytes pc = .ok (.i2l, 1))  (hp : pc + 1 = pc') (K : Go p l e R s m args below meth c Z n0 Q kc ks h cs sl (mkF m pc' Ls (.long x.toInt64 :: st))) : Go p l e R s m args below meth c Z n0 Q kc ks h cs sl (mkF m pc Ls (.int x :: st)) := by
  subst hp
  exact go_step K fun T t a k => XS.i2l a C.1 rfl (hb C.2.1 hd) rfl k
theorem go_l2i (C : Ctx p s m meth c Z y bytes maxL ret) {x : Int64} (hd : decode bytes pc = .ok (.l2i, 1))  (hp : pc + 1 = pc') (K : Go p l e R s m args below meth c Z n0 Q kc ks h cs sl (mkF m pc' Ls (.int x.toInt32 :: st))) : Go p l e R s m args below meth c Z n0 Q kc ks h cs sl (mkF m pc Ls (.long x :: st)) := by
  subst hp
  exact go_step K fun T t a k => XS.l2i a C.1 rfl (hb C.2.1 hd) rfl k
theorem go_i2c (C : Ctx p s m meth c Z y bytes maxL ret) {x : Int32} (hd : decode bytes pc = .ok (.i2c, 1))  (hp : pc + 1 = pc') (K : Go p l e R s m args below meth c Z n0 Q kc ks h cs sl (mkF m pc' Ls (.int x.toUInt32.toUInt16.toUInt32.toInt32 :: st))) : Go p l e R s m args below meth c Z n0 Q kc ks h cs sl (mkF m pc Ls (.int x :: st)) := by
  subst hp
  exact go_step K fun T t a k => XS.i2c a C.1 rfl (hb C.2.1 hd) rfl k
theorem go_i2b (C : Ctx p s m meth c Z y bytes maxL ret) {x : Int32} (hd : decode bytes pc = .ok (.i2b, 1))  (hp : pc + 1 = pc') (K : Go p l e R s m args below meth c Z n0 Q kc ks h cs sl (mkF m pc' Ls (.int x.toInt8.toInt32 :: st))) : Go p l e R s m args below meth c Z n0 Q kc ks h cs sl (mkF m pc Ls (.int x :: st)) := by
  subst hp
  exact go_step K fun T t a k => XS.i2b a C.1 rfl (hb C.2.1 hd) rfl k
theorem go_dup (C : Ctx p s m meth c Z y bytes maxL ret) {v : Value} (hd : decode bytes pc = .ok (.dup, 1)) (hv : v.category = 1) (hp : pc + 1 = pc') (K : Go p l e R s m args below meth c Z n0 Q kc ks h cs sl (mkF m pc' Ls (v :: v :: st))) : Go p l e R s m args below meth c Z n0 Q kc ks h cs sl (mkF m pc Ls (v :: st)) := by
  subst hp
  exact go_step K fun T t a k => XS.dup a C.1 rfl (hb C.2.1 hd) rfl hv k
theorem go_dupX1 (C : Ctx p s m meth c Z y bytes maxL ret) {v w : Value} (hd : decode bytes pc = .ok (.dup_x1, 1)) (hv : v.category = 1) (hw : w.category = 1) (hp : pc + 1 = pc') (K : Go p l e R s m args below meth c Z n0 Q kc ks h cs sl (mkF m pc' Ls (v :: w :: v :: st))) : Go p l e R s m args below meth c Z n0 Q kc ks h cs sl (mkF m pc Ls (v :: w :: st)) := by
  subst hp
  exact go_step K fun T t a k => XS.dupX1 a C.1 rfl (hb C.2.1 hd) rfl hv hw k
theorem go_dup2 (C : Ctx p s m meth c Z y bytes maxL ret) {v w : Value} (hd : decode bytes pc = .ok (.dup2, 1)) (hv : v.category = 1) (hw : w.category = 1) (hp : pc + 1 = pc') (K : Go p l e R s m args below meth c Z n0 Q kc ks h cs sl (mkF m pc' Ls (v :: w :: v :: w :: st))) : Go p l e R s m args below meth c Z n0 Q kc ks h cs sl (mkF m pc Ls (v :: w :: st)) := by
  subst hp
  exact go_step K fun T t a k => XT.dup2 a C.1 rfl (hb C.2.1 hd) rfl hv hw k
theorem go_dup2L (C : Ctx p s m meth c Z y bytes maxL ret) {x : Int64} (hd : decode bytes pc = .ok (.dup2, 1))  (hp : pc + 1 = pc') (K : Go p l e R s m args below meth c Z n0 Q kc ks h cs sl (mkF m pc' Ls (.long x :: .long x :: st))) : Go p l e R s m args below meth c Z n0 Q kc ks h cs sl (mkF m pc Ls (.long x :: st)) := by
  subst hp
  exact go_step K fun T t a k => XT.dup2L a C.1 rfl (hb C.2.1 hd) rfl k
theorem go_pop (C : Ctx p s m meth c Z y bytes maxL ret) {v : Value} (hd : decode bytes pc = .ok (.pop, 1)) (hv : v.category = 1) (hp : pc + 1 = pc') (K : Go p l e R s m args below meth c Z n0 Q kc ks h cs sl (mkF m pc' Ls (st))) : Go p l e R s m args below meth c Z n0 Q kc ks h cs sl (mkF m pc Ls (v :: st)) := by
  subst hp
  exact go_step K fun T t a k => XS.pop a C.1 rfl (hb C.2.1 hd) rfl hv k
theorem go_goto (C : Ctx p s m meth c Z y bytes maxL ret)  {o : Int} (hd : decode bytes pc = .ok (.goto o, 3))  (ho : 0 ≤ (pc : Int) + o) (hp : ((pc : Int) + o).toNat = pc') (K : Go p l e R s m args below meth c Z n0 Q kc ks h cs sl (mkF m pc' Ls st)) : Go p l e R s m args below meth c Z n0 Q kc ks h cs sl (mkF m pc Ls (st)) :=
  go_step K fun T t a k => XS.goto a C.1 rfl rfl (hb C.2.1 hd) ho hp k
theorem go_ifYes (C : Ctx p s m meth c Z y bytes maxL ret) {cd : ClassFile.Cond} {x : Int32} {o : Int} (hd : decode bytes pc = .ok (.ifCond cd o, 3)) (hc : ifCond.holds cd x = true) (ho : 0 ≤ (pc : Int) + o) (hp : ((pc : Int) + o).toNat = pc') (K : Go p l e R s m args below meth c Z n0 Q kc ks h cs sl (mkF m pc' Ls st)) : Go p l e R s m args below meth c Z n0 Q kc ks h cs sl (mkF m pc Ls (.int x :: st)) :=
  go_step K fun T t a k => XS.ifYes a C.1 rfl rfl (hb C.2.1 hd) rfl hc ho hp k
theorem go_ifNo (C : Ctx p s m meth c Z y bytes maxL ret) {cd : ClassFile.Cond} {x : Int32} {o : Int} (hd : decode bytes pc = .ok (.ifCond cd o, 3)) (hc : ifCond.holds cd x = false) (hp : pc + 3 = pc') (K : Go p l e R s m args below meth c Z n0 Q kc ks h cs sl (mkF m pc' Ls st)) : Go p l e R s m args below meth c Z n0 Q kc ks h cs sl (mkF m pc Ls (.int x :: st)) := by
  subst hp
  exact go_step K fun T t a k => XS.ifNo a C.1 rfl (hb C.2.1 hd) rfl hc k
theorem go_icmpYes (C : Ctx p s m meth c Z y bytes maxL ret) {cd : ClassFile.Cond} {x y' : Int32} {o : Int} (hd : decode bytes pc = .ok (.if_icmp cd o, 3)) (hc : if_icmp.holds cd x y' = true) (ho : 0 ≤ (pc : Int) + o) (hp : ((pc : Int) + o).toNat = pc') (K : Go p l e R s m args below meth c Z n0 Q kc ks h cs sl (mkF m pc' Ls st)) : Go p l e R s m args below meth c Z n0 Q kc ks h cs sl (mkF m pc Ls (.int y' :: .int x :: st)) :=
  go_step K fun T t a k => XS.icmpYes a C.1 rfl rfl (hb C.2.1 hd) rfl hc ho hp k
theorem go_icmpNo (C : Ctx p s m meth c Z y bytes maxL ret) {cd : ClassFile.Cond} {x y' : Int32} {o : Int} (hd : decode bytes pc = .ok (.if_icmp cd o, 3)) (hc : if_icmp.holds cd x y' = false) (hp : pc + 3 = pc') (K : Go p l e R s m args below meth c Z n0 Q kc ks h cs sl (mkF m pc' Ls st)) : Go p l e R s m args below meth c Z n0 Q kc ks h cs sl (mkF m pc Ls (.int y' :: .int x :: st)) := by
  subst hp
  exact go_step K fun T t a k => XS.icmpNo a C.1 rfl (hb C.2.1 hd) rfl hc k
theorem go_ifnullYes (C : Ctx p s m meth c Z y bytes maxL ret)  {o : Int} (hd : decode bytes pc = .ok (.ifnull o, 3))  (ho : 0 ≤ (pc : Int) + o) (hp : ((pc : Int) + o).toNat = pc') (K : Go p l e R s m args below meth c Z n0 Q kc ks h cs sl (mkF m pc' Ls st)) : Go p l e R s m args below meth c Z n0 Q kc ks h cs sl (mkF m pc Ls (.null :: st)) :=
  go_step K fun T t a k => XS.ifnullYes a C.1 rfl rfl (hb C.2.1 hd) rfl ho hp k
theorem go_ifnullNo (C : Ctx p s m meth c Z y bytes maxL ret) {b : Addr} {o : Int} (hd : decode bytes pc = .ok (.ifnull o, 3))  (hp : pc + 3 = pc') (K : Go p l e R s m args below meth c Z n0 Q kc ks h cs sl (mkF m pc' Ls st)) : Go p l e R s m args below meth c Z n0 Q kc ks h cs sl (mkF m pc Ls (.ref b :: st)) := by
  subst hp
  exact go_step K fun T t a k => XS.ifnullNo a C.1 rfl (hb C.2.1 hd) rfl k
theorem go_ifnonnullYes (C : Ctx p s m meth c Z y bytes maxL ret) {b : Addr} {o : Int} (hd : decode bytes pc = .ok (.ifnonnull o, 3))  (ho : 0 ≤ (pc : Int) + o) (hp : ((pc : Int) + o).toNat = pc') (K : Go p l e R s m args below meth c Z n0 Q kc ks h cs sl (mkF m pc' Ls st)) : Go p l e R s m args below meth c Z n0 Q kc ks h cs sl (mkF m pc Ls (.ref b :: st)) :=
  go_step K fun T t a k => XS.ifnonnullYes a C.1 rfl rfl (hb C.2.1 hd) rfl ho hp k
theorem go_ifnonnullNo (C : Ctx p s m meth c Z y bytes maxL ret)  {o : Int} (hd : decode bytes pc = .ok (.ifnonnull o, 3))  (hp : pc + 3 = pc') (K : Go p l e R s m args below meth c Z n0 Q kc ks h cs sl (mkF m pc' Ls st)) : Go p l e R s m args below meth c Z n0 Q kc ks h cs sl (mkF m pc Ls (.null :: st)) := by
  subst hp
  exact go_step K fun T t a k => XS.ifnonnullNo a C.1 rfl (hb C.2.1 hd) rfl k
theorem go_acmpYes (C : Ctx p s m meth c Z y bytes maxL ret) {cd : ClassFile.ACond} {v w : Value} {o : Int} (hd : decode bytes pc = .ok (.if_acmp cd o, 3)) (hv : v.isRef = true) (hw : w.isRef = true) (hc : XT.acmp cd v w = true) (ho : 0 ≤ (pc : Int) + o) (hp : ((pc : Int) + o).toNat = pc') (K : Go p l e R s m args below meth c Z n0 Q kc ks h cs sl (mkF m pc' Ls st)) : Go p l e R s m args below meth c Z n0 Q kc ks h cs sl (mkF m pc Ls (w :: v :: st)) :=
  go_step K fun T t a k => XT.acmpYes a C.1 rfl rfl (hb C.2.1 hd) rfl hv hw hc ho hp k
theorem go_acmpNo (C : Ctx p s m meth c Z y bytes maxL ret) {cd : ClassFile.ACond} {v w : Value} {o : Int} (hd : decode bytes pc = .ok (.if_acmp cd o, 3)) (hv : v.isRef = true) (hw : w.isRef = true) (hc : XT.acmp cd v w = false) (hp : pc + 3 = pc') (K : Go p l e R s m args below meth c Z n0 Q kc ks h cs sl (mkF m pc' Ls st)) : Go p l e R s m args below meth c Z n0 Q kc ks h cs sl (mkF m pc Ls (w :: v :: st)) := by
  subst hp
  exact go_step K fun T t a k => XT.acmpNo a C.1 rfl (hb C.2.1 hd) rfl hv hw hc k
theorem go_tswIn (C : Ctx p s m meth c Z y bytes maxL ret) {dflt low high : Int} {offs : Array Int} {len : Nat} {o : Int} {i : Int32} (hd : decode bytes pc = .ok (.tableswitch dflt low high offs, len)) (hin : ¬ (i.toInt < low ∨ i.toInt > high)) (hoff : offs[(i.toInt - low).toNat]? = some o) (ho : 0 ≤ (pc : Int) + o) (hp : ((pc : Int) + o).toNat = pc') (K : Go p l e R s m args below meth c Z n0 Q kc ks h cs sl (mkF m pc' Ls st)) : Go p l e R s m args below meth c Z n0 Q kc ks h cs sl (mkF m pc Ls (.int i :: st)) :=
  go_step K fun T t a k => XS.tswIn a C.1 rfl rfl (hb C.2.1 hd) rfl hin hoff ho hp k
theorem go_ldcInt (C : Ctx p s m meth c Z y bytes maxL ret) {index : Nat} {v : Int32} (w : (Jvm.Cond.constant y.cls index v).before a0 Z = true) (hd : decode bytes pc = .ok (.ldc index, 2)) (hp : pc + 2 = pc') (K : Go p l e R s m args below meth c Z n0 Q kc ks h cs sl (mkF m pc' Ls (.int v :: st))) : Go p l e R s m args below meth c Z n0 Q kc ks h cs sl (mkF m pc Ls st) := by
  subst hp
  exact go_stepX K fun T t L X eT k => X.ldcInt C.1 C.2.2.2.2.2.2.1 (mvT C.2.2.2.2.2.1 w) (g := mkF m pc Ls st) rfl (hb C.2.1 hd) t k
theorem go_ldcwInt (C : Ctx p s m meth c Z y bytes maxL ret) {index : Nat} {v : Int32} (w : (Jvm.Cond.constant y.cls index v).before a0 Z = true) (hd : decode bytes pc = .ok (.ldc_w index, 3)) (hp : pc + 3 = pc') (K : Go p l e R s m args below meth c Z n0 Q kc ks h cs sl (mkF m pc' Ls (.int v :: st))) : Go p l e R s m args below meth c Z n0 Q kc ks h cs sl (mkF m pc Ls st) := by
  subst hp
  exact go_stepX K fun T t L X eT k => X.ldcwInt C.1 C.2.2.2.2.2.2.1 (mvT C.2.2.2.2.2.1 w) (g := mkF m pc Ls st) rfl (hb C.2.1 hd) t k
theorem go_ldcLong (C : Ctx p s m meth c Z y bytes maxL ret) {index : Nat} {v : Int64} (w : (Jvm.Cond.constantLong y.cls index v).before a0 Z = true) (hd : decode bytes pc = .ok (.ldc2_w index, 3)) (hp : pc + 3 = pc') (K : Go p l e R s m args below meth c Z n0 Q kc ks h cs sl (mkF m pc' Ls (.long v :: st))) : Go p l e R s m args below meth c Z n0 Q kc ks h cs sl (mkF m pc Ls st) := by
  subst hp
  exact go_stepX K fun T t L X eT k => X.ldc2Long C.1 C.2.2.2.2.2.2.1 (mvT C.2.2.2.2.2.1 w) (g := mkF m pc Ls st) rfl (hb C.2.1 hd) t k
theorem go_getF (C : Ctx p s m meth c Z y bytes maxL ret) {R0 O n d host : String} {index : Nat} {a : Addr} {v : Value} (w : (Jvm.Cond.fieldLink y.cls index R0 n d).before a0 Z = true ∨ (Jvm.Cond.fieldLinkNest y.cls index R0 n d host).before a0 Z = true) (via : Via Z R0 O n d) (F : Fld Z h a O n d v) (hd : decode bytes pc = .ok (.getfield index, 3)) (hp : pc + 3 = pc') (K : Go p l e R s m args below meth c Z n0 Q kc ks h cs sl (mkF m pc' Ls (v :: st))) : Go p l e R s m args below meth c Z n0 Q kc ks h cs sl (mkF m pc Ls (.ref a :: st)) := by
  subst hp
  exact go_stepT K fun T L X eT => getF X C.1 C.2.2.2.2.2.1 C.2.2.2.2.2.2.1 w via eT F (g := mkF m pc Ls (.ref a :: st)) rfl rfl (hb C.2.1 hd)
theorem go_getS (C : Ctx p s m meth c Z y bytes maxL ret) {R0 O n d host : String} {index : Nat} {v : Value} (w : (Jvm.Cond.fieldLink y.cls index R0 n d).before a0 Z = true ∨ (Jvm.Cond.fieldLinkNest y.cls index R0 n d host).before a0 Z = true) (via : Via Z R0 O n d) (F : Sta Z h O n d v) (hd : decode bytes pc = .ok (.getstatic index, 3)) (hp : pc + 3 = pc') (K : Go p l e R s m args below meth c Z n0 Q kc ks h cs sl (mkF m pc' Ls (v :: st))) : Go p l e R s m args below meth c Z n0 Q kc ks h cs sl (mkF m pc Ls st) := by
  subst hp
  exact go_stepT K fun T L X eT => getS2 X C.1 C.2.2.2.2.2.1 C.2.2.2.2.2.2.1 w via eT F (g := mkF m pc Ls st) rfl (hb C.2.1 hd)
theorem go_putF (C : Ctx p s m meth c Z y bytes maxL ret) {R0 O n d host K0 : String} {index kk : Nat} {ty : FieldType} {a : Addr} {v old : Value} (w : (Jvm.Cond.fieldLink y.cls index R0 n d).before a0 Z = true ∨ (Jvm.Cond.fieldLinkNest y.cls index R0 n d host).before a0 Z = true) (via : Via Z R0 O n d) (F : Fld Z h a O n d old) (E : Exa Z h a K0) (L : (Jvm.Cond.lays K0 O n d).before a0 Z = true ∨ ((Jvm.Cond.laysFinal K0 O n d).before a0 Z = true ∧ y.cls = O ∧ y.name = "<init>")) (wi : (Jvm.Cond.instantiable K0 kk).before a0 Z = true)
    (hty : parseFieldDescriptor d = some ty) (hn : narrow ty v = v) (hf : fits ty v = true) (hd : decode bytes pc = .ok (.putfield index, 3)) (hp : pc + 3 = pc') (ha : n0 ≤ a) (K : ∀ h', Wr h h' a (Jvm.RoadKit.slotOf Z O n d) v → Fld Z h' a O n d v → Go p l e R s m args below meth c Z n0 Q kc ks h' cs sl (mkF m pc' Ls st)) : Go p l e R s m args below meth c Z n0 Q kc ks h cs sl (mkF m pc Ls (v :: .ref a :: st)) := fun T L0 hL O X eT => by
  subst hp
  obtain ⟨T', h', X', e', W, hs⟩ := putF X C.1 C.2.2.2.2.2.1 C.2.2.2.2.2.2.1 w via eT F E (L.imp id fun q => ⟨q.1, q.2.1, C.2.2.2.2.2.2.2.trans q.2.2⟩) wi hty hn hf (g := mkF m pc Ls (v :: .ref a :: st)) rfl rfl (hb C.2.1 hd)
  obtain ⟨U, v, L', h1, r⟩ := K h' W (F.same W) T' _ (Fr.snoc X' hL ha) (O.wr W ha) X' e'
  exact ⟨U, v, L', hs U h1, r⟩
theorem go_putFN (C : Ctx p s m meth c Z y bytes maxL ret) {R0 O n d K0 : String} {index kk : Nat} {ty : FieldType} {a : Addr} {v v' old : Value} (w : (Jvm.Cond.fieldLink y.cls index R0 n d).before a0 Z = true) (via : Via Z R0 O n d) (F : Fld Z h a O n d old) (E : Exa Z h a K0) (L : (Jvm.Cond.lays K0 O n d).before a0 Z = true ∨ ((Jvm.Cond.laysFinal K0 O n d).before a0 Z = true ∧ y.cls = O ∧ y.name = "<init>")) (wi : (Jvm.Cond.instantiable K0 kk).before a0 Z = true)
    (hty : parseFieldDescriptor d = some ty) (hn : narrow ty v = v') (hf : fits ty v' = true) (hd : decode bytes pc = .ok (.putfield index, 3)) (hp : pc + 3 = pc') (ha : n0 ≤ a) (K : ∀ h', Wr h h' a (Jvm.RoadKit.slotOf Z O n d) v' → Fld Z h' a O n d v' → Go p l e R s m args below meth c Z n0 Q kc ks h' cs sl (mkF m pc' Ls st)) : Go p l e R s m args below meth c Z n0 Q kc ks h cs sl (mkF m pc Ls (v :: .ref a :: st)) := fun T L0 hL O X eT => by
  subst hp
  obtain ⟨T', h', X', e', W, hs⟩ := putFN X C.1 C.2.2.2.2.2.1 C.2.2.2.2.2.2.1 w via eT F E (L.imp id fun q => ⟨q.1, q.2.1, C.2.2.2.2.2.2.2.trans q.2.2⟩) wi hty hn hf (g := mkF m pc Ls (v :: .ref a :: st)) rfl rfl (hb C.2.1 hd)
  obtain ⟨U, v, L', h1, r⟩ := K h' W (F.same W) T' _ (Fr.snoc X' hL ha) (O.wr W ha) X' e'
  exact ⟨U, v, L', hs U h1, r⟩
theorem go_new (C : Ctx p s m meth c Z y bytes maxL ret) {K0 : String} {index n : Nat} (w : (Jvm.Cond.classLink y.cls index K0).before a0 Z = true) (wi : (Jvm.Cond.instantiable K0 n).before a0 Z = true) (wz : (Jvm.Cond.initialized K0).before a0 Z = true) (hd : decode bytes pc = .ok (.new index, 3)) (hp : pc + 3 = pc') (hc : cs + 1 ≤ R.cells) (hl : sl + n ≤ R.slots)
    (K : ∀ h' a, a = h.size → n0 ≤ a → Ext h h' → Exa Z h' a K0 → (∀ {O nm d : String} {ty : FieldType}, Laid Z a0 K0 O nm d → parseFieldDescriptor d = some ty → Fld Z h' a O nm d (defaultValue ty)) → Go p l e R s m args below meth c Z n0 Q kc ks h' (cs + 1) (sl + n) (mkF m pc' Ls (.ref a :: st))) : Go p l e R s m args below meth c Z n0 Q kc ks h cs sl (mkF m pc Ls st) := fun T L0 hL O X eT => by
  subst hp
  obtain ⟨T', h', X', e', E, A, D, -, hs⟩ := newO X C.1 C.2.2.2.2.2.1 C.2.2.2.2.2.2.1 w wi wz eT (g := mkF m pc Ls st) rfl (hb C.2.1 hd) hc hl
  obtain ⟨U, v, L', h1, r⟩ := K h' h.size rfl (O.1 ▸ O.2.1) E A D T' _ hL (O.ext E) X' e'
  exact ⟨U, v, L', hs U h1, r⟩
theorem go_newP (C : Ctx p s m meth c Z y bytes maxL ret) {aty : ArrayType} {n : Int32} {cap : Nat} (w : (Jvm.Cond.arrayClass (newarray.typeOf aty)).before a0 Z = true) (hd : decode bytes pc = .ok (.newarray aty, 2)) (hp : pc + 2 = pc') (hn : ¬ n < 0) (hcap : n.toNatClampNeg ≤ cap) (hb' : cap * 8 ≤ 536870912) (hc : cs + 1 ≤ R.cells) (hl : sl + cap ≤ R.slots)
    (K : ∀ h' a k, a = h.size → n0 ≤ a → Ext h h' → Arr Z h' a (newA k (newarray.typeOf aty) n) (newarray.typeOf aty) → Go p l e R s m args below meth c Z n0 Q kc ks h' (cs + 1) (sl + cap) (mkF m pc' Ls (.ref a :: st))) : Go p l e R s m args below meth c Z n0 Q kc ks h cs sl (mkF m pc Ls (.int n :: st)) := fun T L0 hL O X eT => by
  subst hp
  obtain ⟨T', h', k, X', e', E, A, hs⟩ := newP X C.1 C.2.2.2.2.2.1 w eT (g := mkF m pc Ls (.int n :: st)) rfl (hb C.2.1 hd) rfl hn hcap hb' hc hl
  obtain ⟨U, v, L', h1, r⟩ := K h' h.size k rfl (O.1 ▸ O.2.1) E A T' _ hL (O.ext E) X' e'
  exact ⟨U, v, L', hs U h1, r⟩
theorem go_newR (C : Ctx p s m meth c Z y bytes maxL ret) {K0 : String} {index : Nat} {n : Int32} {cap : Nat} (w1 : (Jvm.Cond.classLink y.cls index K0).before a0 Z = true) (w2 : (Jvm.Cond.arrayOver (.object K0)).before a0 Z = true) (hd : decode bytes pc = .ok (.anewarray index, 3)) (hp : pc + 3 = pc') (hn : ¬ n < 0) (hcap : n.toNatClampNeg ≤ cap) (hb' : cap * 8 ≤ 536870912) (hc : cs + 1 ≤ R.cells) (hl : sl + cap ≤ R.slots)
    (K : ∀ h' a k, a = h.size → n0 ≤ a → Ext h h' → Arr Z h' a (newA k (.object K0) n) (.object K0) → Ovr Z k K0 → Go p l e R s m args below meth c Z n0 Q kc ks h' (cs + 1) (sl + cap) (mkF m pc' Ls (.ref a :: st))) : Go p l e R s m args below meth c Z n0 Q kc ks h cs sl (mkF m pc Ls (.int n :: st)) := fun T L0 hL O X eT => by
  subst hp
  obtain ⟨T', h', k, X', e', E, A, V, hs⟩ := newR X C.1 C.2.2.2.2.2.1 C.2.2.2.2.2.2.1 w1 w2 eT (g := mkF m pc Ls (.int n :: st)) rfl (hb C.2.1 hd) rfl hn hcap hb' hc hl
  obtain ⟨U, v, L', h1, r⟩ := K h' h.size k rfl (O.1 ▸ O.2.1) E A V T' _ hL (O.ext E) X' e'
  exact ⟨U, v, L', hs U h1, r⟩
theorem go_stI (C : Ctx p s m meth c Z y bytes maxL ret) {a : Addr} {cl : Cell} {j : Int32} {x : Int32} (A : Arr Z h a cl .int) (hj : ¬ (j < 0 ∨ cl.slots.size ≤ j.toNatClampNeg)) (hd : decode bytes pc = .ok (.iastore, 1)) (hp : pc + 1 = pc') (ha : n0 ≤ a)
    (K : ∀ h', Wr h h' a j.toNatClampNeg (.int x) → Arr Z h' a (cl.setSlot j.toNatClampNeg (.int x)) .int → Go p l e R s m args below meth c Z n0 Q kc ks h' cs sl (mkF m pc' Ls st)) : Go p l e R s m args below meth c Z n0 Q kc ks h cs sl (mkF m pc Ls (.int x :: .int j :: .ref a :: st)) := fun T L0 hL O X eT => by
  subst hp
  obtain ⟨T', h', X', e', W, hs⟩ := stI X C.1 C.2.2.2.2.2.1 eT A hj (g := mkF m pc Ls (.int x :: .int j :: .ref a :: st)) rfl rfl (hb C.2.1 hd)
  obtain ⟨U, v, L', h1, r⟩ := K h' W (A.same W) T' _ (Fr.snoc X' hL ha) (O.wr W ha) X' e'
  exact ⟨U, v, L', hs U h1, r⟩
theorem go_stJ (C : Ctx p s m meth c Z y bytes maxL ret) {a : Addr} {cl : Cell} {j : Int32} {x : Int64} (A : Arr Z h a cl .long) (hj : ¬ (j < 0 ∨ cl.slots.size ≤ j.toNatClampNeg)) (hd : decode bytes pc = .ok (.lastore, 1)) (hp : pc + 1 = pc') (ha : n0 ≤ a)
    (K : ∀ h', Wr h h' a j.toNatClampNeg (.long x) → Arr Z h' a (cl.setSlot j.toNatClampNeg (.long x)) .long → Go p l e R s m args below meth c Z n0 Q kc ks h' cs sl (mkF m pc' Ls st)) : Go p l e R s m args below meth c Z n0 Q kc ks h cs sl (mkF m pc Ls (.long x :: .int j :: .ref a :: st)) := fun T L0 hL O X eT => by
  subst hp
  obtain ⟨T', h', X', e', W, hs⟩ := stJ X C.1 C.2.2.2.2.2.1 eT A hj (g := mkF m pc Ls (.long x :: .int j :: .ref a :: st)) rfl rfl (hb C.2.1 hd)
  obtain ⟨U, v, L', h1, r⟩ := K h' W (A.same W) T' _ (Fr.snoc X' hL ha) (O.wr W ha) X' e'
  exact ⟨U, v, L', hs U h1, r⟩
theorem go_stC (C : Ctx p s m meth c Z y bytes maxL ret) {a : Addr} {cl : Cell} {j : Int32} {x : Int32} (A : Arr Z h a cl .char) (hj : ¬ (j < 0 ∨ cl.slots.size ≤ j.toNatClampNeg)) (hd : decode bytes pc = .ok (.castore, 1)) (hp : pc + 1 = pc') (ha : n0 ≤ a)
    (K : ∀ h', Wr h h' a j.toNatClampNeg (.int (nar .char x)) → Arr Z h' a (cl.setSlot j.toNatClampNeg (.int (nar .char x))) .char → Go p l e R s m args below meth c Z n0 Q kc ks h' cs sl (mkF m pc' Ls st)) : Go p l e R s m args below meth c Z n0 Q kc ks h cs sl (mkF m pc Ls (.int x :: .int j :: .ref a :: st)) := fun T L0 hL O X eT => by
  subst hp
  obtain ⟨T', h', X', e', W, hs⟩ := stC X C.1 C.2.2.2.2.2.1 eT A hj (g := mkF m pc Ls (.int x :: .int j :: .ref a :: st)) rfl rfl (hb C.2.1 hd)
  obtain ⟨U, v, L', h1, r⟩ := K h' W (A.same W) T' _ (Fr.snoc X' hL ha) (O.wr W ha) X' e'
  exact ⟨U, v, L', hs U h1, r⟩
theorem go_stB (C : Ctx p s m meth c Z y bytes maxL ret) {a : Addr} {cl : Cell} {j : Int32} {x : Int32} (A : Arr Z h a cl .byte) (hj : ¬ (j < 0 ∨ cl.slots.size ≤ j.toNatClampNeg)) (hd : decode bytes pc = .ok (.bastore, 1)) (hp : pc + 1 = pc') (ha : n0 ≤ a)
    (K : ∀ h', Wr h h' a j.toNatClampNeg (.int (nar .byte x)) → Arr Z h' a (cl.setSlot j.toNatClampNeg (.int (nar .byte x))) .byte → Go p l e R s m args below meth c Z n0 Q kc ks h' cs sl (mkF m pc' Ls st)) : Go p l e R s m args below meth c Z n0 Q kc ks h cs sl (mkF m pc Ls (.int x :: .int j :: .ref a :: st)) := fun T L0 hL O X eT => by
  subst hp
  obtain ⟨T', h', X', e', W, hs⟩ := stB X C.1 C.2.2.2.2.2.1 eT A hj (g := mkF m pc Ls (.int x :: .int j :: .ref a :: st)) rfl rfl (hb C.2.1 hd)
  obtain ⟨U, v, L', h1, r⟩ := K h' W (A.same W) T' _ (Fr.snoc X' hL ha) (O.wr W ha) X' e'
  exact ⟨U, v, L', hs U h1, r⟩
theorem go_stZ (C : Ctx p s m meth c Z y bytes maxL ret) {a : Addr} {cl : Cell} {j : Int32} {x : Int32} (A : Arr Z h a cl .boolean) (hj : ¬ (j < 0 ∨ cl.slots.size ≤ j.toNatClampNeg)) (hd : decode bytes pc = .ok (.bastore, 1)) (hp : pc + 1 = pc') (ha : n0 ≤ a)
    (K : ∀ h', Wr h h' a j.toNatClampNeg (.int (nar .boolean x)) → Arr Z h' a (cl.setSlot j.toNatClampNeg (.int (nar .boolean x))) .boolean → Go p l e R s m args below meth c Z n0 Q kc ks h' cs sl (mkF m pc' Ls st)) : Go p l e R s m args below meth c Z n0 Q kc ks h cs sl (mkF m pc Ls (.int x :: .int j :: .ref a :: st)) := fun T L0 hL O X eT => by
  subst hp
  obtain ⟨T', h', X', e', W, hs⟩ := stZ X C.1 C.2.2.2.2.2.1 eT A hj (g := mkF m pc Ls (.int x :: .int j :: .ref a :: st)) rfl rfl (hb C.2.1 hd)
  obtain ⟨U, v, L', h1, r⟩ := K h' W (A.same W) T' _ (Fr.snoc X' hL ha) (O.wr W ha) X' e'
  exact ⟨U, v, L', hs U h1, r⟩
theorem go_stR (C : Ctx p s m meth c Z y bytes maxL ret) {a : Addr} {cl : Cell} {j : Int32} {ty : FieldType} {w : Value} (A : Arr Z h a cl ty) (hj : ¬ (j < 0 ∨ cl.slots.size ≤ j.toNatClampNeg)) (hty : ty.isReference = true) (F : Sto Z h a w) (hd : decode bytes pc = .ok (.aastore, 1)) (hp : pc + 1 = pc') (ha : n0 ≤ a)
    (K : ∀ h', Wr h h' a j.toNatClampNeg w → Arr Z h' a (cl.setSlot j.toNatClampNeg w) ty → Go p l e R s m args below meth c Z n0 Q kc ks h' cs sl (mkF m pc' Ls st)) : Go p l e R s m args below meth c Z n0 Q kc ks h cs sl (mkF m pc Ls (w :: .int j :: .ref a :: st)) := fun T L0 hL O X eT => by
  subst hp
  obtain ⟨T', h', X', e', W, hs⟩ := stR X C.1 C.2.2.2.2.2.1 eT A hj hty F (g := mkF m pc Ls (w :: .int j :: .ref a :: st)) rfl rfl (hb C.2.1 hd)
  obtain ⟨U, v, L', h1, r⟩ := K h' W (A.same W) T' _ (Fr.snoc X' hL ha) (O.wr W ha) X' e'
  exact ⟨U, v, L', hs U h1, r⟩
theorem go_arraylength (C : Ctx p s m meth c Z y bytes maxL ret) {a : Addr} {cl : Cell} {ty : FieldType} {z : Int32} (A : Arr Z h a cl ty) (hz : cl.slots.size.toInt32 = z) (hd : decode bytes pc = .ok (.arraylength, 1)) (hp : pc + 1 = pc') (K : Go p l e R s m args below meth c Z n0 Q kc ks h cs sl (mkF m pc' Ls (.int z :: st))) : Go p l e R s m args below meth c Z n0 Q kc ks h cs sl (mkF m pc Ls (.ref a :: st)) := by
  subst hp hz
  exact go_stepX K fun T t L X eT k => X.arraylength C.1 (by rw [eT]; exact A.1) (State.isArrayOf_alike C.2.2.2.2.2.1.alike A.2.1) (g := mkF m pc Ls (.ref a :: st)) rfl rfl (hb C.2.1 hd) t k
theorem go_aaload (C : Ctx p s m meth c Z y bytes maxL ret) {a : Addr} {cl : Cell} {j : Int32} {v : Value} {ty : FieldType} (A : Arr Z h a cl ty) (hty : ty.isReference = true) (hin : ¬ (j < 0 ∨ cl.slots.size ≤ j.toNatClampNeg)) (hv : cl.slots[j.toNatClampNeg]? = some v) (hd : decode bytes pc = .ok (.aaload, 1)) (hp : pc + 1 = pc') (K : Go p l e R s m args below meth c Z n0 Q kc ks h cs sl (mkF m pc' Ls (v :: st))) : Go p l e R s m args below meth c Z n0 Q kc ks h cs sl (mkF m pc Ls (.int j :: .ref a :: st)) := by
  subst hp
  exact go_stepX K fun T t L X eT k => X.aaload C.1 (by rw [eT]; exact A.1) (State.isArrayOf_alike C.2.2.2.2.2.1.alike A.2.1) hty A.2.2 hin hv (g := mkF m pc Ls (.int j :: .ref a :: st)) rfl rfl (hb C.2.1 hd) t k
theorem go_iaload (C : Ctx p s m meth c Z y bytes maxL ret) {a : Addr} {cl : Cell} {j : Int32} {v : Value} (A : Arr Z h a cl .int) (hin : ¬ (j < 0 ∨ cl.slots.size ≤ j.toNatClampNeg)) (hv : cl.slots[j.toNatClampNeg]? = some v) (hd : decode bytes pc = .ok (.iaload, 1)) (hp : pc + 1 = pc') (K : Go p l e R s m args below meth c Z n0 Q kc ks h cs sl (mkF m pc' Ls (v :: st))) : Go p l e R s m args below meth c Z n0 Q kc ks h cs sl (mkF m pc Ls (.int j :: .ref a :: st)) := by
  subst hp
  exact go_stepX K fun T t L X eT k => X.iaload C.1 (by rw [eT]; exact A.1) (State.isArrayOf_alike C.2.2.2.2.2.1.alike A.2.1) A.2.2 hin hv (g := mkF m pc Ls (.int j :: .ref a :: st)) rfl rfl (hb C.2.1 hd) t k
theorem go_laload (C : Ctx p s m meth c Z y bytes maxL ret) {a : Addr} {cl : Cell} {j : Int32} {v : Value} (A : Arr Z h a cl .long) (hin : ¬ (j < 0 ∨ cl.slots.size ≤ j.toNatClampNeg)) (hv : cl.slots[j.toNatClampNeg]? = some v) (hd : decode bytes pc = .ok (.laload, 1)) (hp : pc + 1 = pc') (K : Go p l e R s m args below meth c Z n0 Q kc ks h cs sl (mkF m pc' Ls (v :: st))) : Go p l e R s m args below meth c Z n0 Q kc ks h cs sl (mkF m pc Ls (.int j :: .ref a :: st)) := by
  subst hp
  exact go_stepX K fun T t L X eT k => X.laload C.1 (by rw [eT]; exact A.1) (State.isArrayOf_alike C.2.2.2.2.2.1.alike A.2.1) A.2.2 hin hv (g := mkF m pc Ls (.int j :: .ref a :: st)) rfl rfl (hb C.2.1 hd) t k
theorem go_caload (C : Ctx p s m meth c Z y bytes maxL ret) {a : Addr} {cl : Cell} {j : Int32} {v : Value} (A : Arr Z h a cl .char) (hin : ¬ (j < 0 ∨ cl.slots.size ≤ j.toNatClampNeg)) (hv : cl.slots[j.toNatClampNeg]? = some v) (hd : decode bytes pc = .ok (.caload, 1)) (hp : pc + 1 = pc') (K : Go p l e R s m args below meth c Z n0 Q kc ks h cs sl (mkF m pc' Ls (v :: st))) : Go p l e R s m args below meth c Z n0 Q kc ks h cs sl (mkF m pc Ls (.int j :: .ref a :: st)) := by
  subst hp
  exact go_stepX K fun T t L X eT k => X.caload C.1 (by rw [eT]; exact A.1) (State.isArrayOf_alike C.2.2.2.2.2.1.alike A.2.1) A.2.2 hin hv (g := mkF m pc Ls (.int j :: .ref a :: st)) rfl rfl (hb C.2.1 hd) t k
theorem go_castY (C : Ctx p s m meth c Z y bytes maxL ret) {K0 : String} {index : Nat} {a : Addr} (w : (Jvm.Cond.classLink y.cls index K0).before a0 Z = true) (F : Ins Z h a K0 true) (hd : decode bytes pc = .ok (.checkcast index, 3)) (hp : pc + 3 = pc') (K : Go p l e R s m args below meth c Z n0 Q kc ks h cs sl (mkF m pc' Ls (.ref a :: st))) : Go p l e R s m args below meth c Z n0 Q kc ks h cs sl (mkF m pc Ls (.ref a :: st)) := by
  subst hp
  exact go_stepT K fun T L X eT => castY X C.1 C.2.2.2.2.2.1 C.2.2.2.2.2.2.1 w eT F (g := mkF m pc Ls (.ref a :: st)) rfl rfl (hb C.2.1 hd)
theorem go_castNull (C : Ctx p s m meth c Z y bytes maxL ret) {index : Nat} (hd : decode bytes pc = .ok (.checkcast index, 3)) (hp : pc + 3 = pc') (K : Go p l e R s m args below meth c Z n0 Q kc ks h cs sl (mkF m pc' Ls (.null :: st))) : Go p l e R s m args below meth c Z n0 Q kc ks h cs sl (mkF m pc Ls (.null :: st)) := by
  subst hp
  exact go_stepX K fun T t L X eT k => X.checkcastNull C.1 (g := mkF m pc Ls (.null :: st)) rfl rfl (hb C.2.1 hd) t k
theorem go_instY (C : Ctx p s m meth c Z y bytes maxL ret) {K0 : String} {index : Nat} {a : Addr} (w : (Jvm.Cond.classLink y.cls index K0).before a0 Z = true) (F : Ins Z h a K0 true) (hd : decode bytes pc = .ok (.instanceof index, 3)) (hp : pc + 3 = pc') (K : Go p l e R s m args below meth c Z n0 Q kc ks h cs sl (mkF m pc' Ls (.int 1 :: st))) : Go p l e R s m args below meth c Z n0 Q kc ks h cs sl (mkF m pc Ls (.ref a :: st)) := by
  subst hp
  exact go_stepT K fun T L X eT => instY X C.1 C.2.2.2.2.2.1 C.2.2.2.2.2.2.1 w eT F (g := mkF m pc Ls (.ref a :: st)) rfl rfl (hb C.2.1 hd)
theorem go_instNo (C : Ctx p s m meth c Z y bytes maxL ret) {K0 K1 : String} {index : Nat} {a : Addr} (w : (Jvm.Cond.classLink y.cls index K0).before a0 Z = true) (E : Exa Z h a K1) (F : ∃ c t, Z.vm.findClass K1 = some c ∧ Z.vm.findClass K0 = some t ∧ Z.vm.assignable c t = false) (hd : decode bytes pc = .ok (.instanceof index, 3)) (hp : pc + 3 = pc') (K : Go p l e R s m args below meth c Z n0 Q kc ks h cs sl (mkF m pc' Ls (.int 0 :: st))) : Go p l e R s m args below meth c Z n0 Q kc ks h cs sl (mkF m pc Ls (.ref a :: st)) := by
  subst hp
  exact go_stepT K fun T L X eT => instNo X C.1 C.2.2.2.2.2.1 C.2.2.2.2.2.2.1 w eT E F (g := mkF m pc Ls (.ref a :: st)) rfl rfl (hb C.2.1 hd)
theorem go_initO (C : Ctx p s m meth c Z y bytes maxL ret) {idx : Nat} {a : Addr} (w1 : (Jvm.Cond.methodLink y.cls idx Lib.objectInit).before a0 Z = true) (w2 : (Jvm.Cond.instanceMethod Lib.objectInit).before a0 Z = true) (w3 : (Jvm.Cond.code Lib.objectInit ⟨#[0xb1]⟩ 1 none).before a0 Z = true) (hsz : Ls.size = maxL) (hd : decode bytes pc = .ok (.invokespecial idx, 3)) (hp : pc + 3 = pc') (hf : 1 ≤ R.frames) (hl : (st.map fun v => v.category).sum + 12 ≤ R.locals) (K : Go p l e R s m args below meth c Z n0 Q kc ks h cs sl (mkF m pc' Ls st)) : Go p l e R s m args below meth c Z n0 Q kc ks h cs sl (mkF m pc Ls (.ref a :: st)) := by
  subst hp
  exact go_stepT K fun T L X eT => initO X C.1 C.2.2.2.2.2.1 C.2.2.2.2.2.2.1 w1 w2 w3 eT (g := mkF m pc Ls (.ref a :: st)) rfl (hsz.trans C.2.2.1.symm) rfl (hb C.2.1 hd) hf (W := (st.map fun v => v.category).sum) (by show 2 * 0 + _ ≤ _; omega) hl
theorem go_ret0 (C : Ctx p s m meth c Z y bytes maxL none) (hd : decode bytes pc = .ok (.return_, 1)) (hc : cs ≤ kc) (hs : sl ≤ ks) (q : Q none h) : Go p l e R s m args below meth c Z n0 Q kc ks h cs sl (mkF m pc Ls []) := fun T L hL O X eT => by
  obtain ⟨fs, hr, hrun, hended, hW, hsame⟩ := X.leave (v := none) (fun _ => rfl) C.2.2.2.2.1
  subst eT
  exact ⟨_, _, L, X.returnOut C.1 C.2.2.2.1 (hb C.2.1 hd) hr, hrun, hended, hL, O, hW, hsame.mono hc hs, q⟩
theorem go_retI (C : Ctx p s m meth c Z y bytes maxL (some .int)) {z : Int32} (hd : decode bytes pc = .ok (.ireturn, 1)) (hc : cs ≤ kc) (hs : sl ≤ ks) (q : Q (some (.int z)) h) : Go p l e R s m args below meth c Z n0 Q kc ks h cs sl (mkF m pc Ls (.int z :: st)) := fun T L hL O X eT => by
  obtain ⟨fs, hr, hrun, hended, hW, hsame⟩ := X.leave (v := some (.int z)) (fun h => by rw [C.2.2.2.1] at h; cases h) C.2.2.2.2.1
  subst eT
  exact ⟨_, _, L, retOut X C.1 C.2.2.2.1 rfl (Or.inl ⟨rfl, Or.inl rfl, _, rfl⟩) (hb C.2.1 hd) hr, hrun, hended, hL, O, hW, hsame.mono hc hs, q⟩
theorem go_retL (C : Ctx p s m meth c Z y bytes maxL (some .long)) {z : Int64} (hd : decode bytes pc = .ok (.lreturn, 1)) (hc : cs ≤ kc) (hs : sl ≤ ks) (q : Q (some (.long z)) h) : Go p l e R s m args below meth c Z n0 Q kc ks h cs sl (mkF m pc Ls (.long z :: st)) := fun T L hL O X eT => by
  obtain ⟨fs, hr, hrun, hended, hW, hsame⟩ := X.leave (v := some (.long z)) (fun h => by rw [C.2.2.2.1] at h; cases h) C.2.2.2.2.1
  subst eT
  exact ⟨_, _, L, retOut X C.1 C.2.2.2.1 rfl (Or.inr (Or.inl ⟨rfl, rfl, _, rfl⟩)) (hb C.2.1 hd) hr, hrun, hended, hL, O, hW, hsame.mono hc hs, q⟩
theorem go_retN {t : FieldType} (C : Ctx p s m meth c Z y bytes maxL (some t)) {z z' : Int32} (ht : t = .boolean ∨ t = .byte ∨ t = .char ∨ t = .short) (hz : nar t z = z') (hd : decode bytes pc = .ok (.ireturn, 1)) (hc : cs ≤ kc) (hs : sl ≤ ks) (q : Q (some (.int z')) h) : Go p l e R s m args below meth c Z n0 Q kc ks h cs sl (mkF m pc Ls (.int z :: st)) := fun T L hL O X eT => by
  subst hz
  obtain ⟨fs, hr, hrun, hended, hW, hsame⟩ := X.leave (v := some (.int (nar t z))) (fun h => by rw [C.2.2.2.1] at h; cases h) C.2.2.2.2.1
  subst eT
  exact ⟨_, _, L, retN X C.1 C.2.2.2.1 ht (hb C.2.1 hd) hr, hrun, hended, hL, O, hW, hsame.mono hc hs, q⟩
theorem go_retA {t : FieldType} (C : Ctx p s m meth c Z y bytes maxL (some t)) {w : Value} (ht : t.isReference = true) (hw : w.isRef = true) (hd : decode bytes pc = .ok (.areturn, 1)) (hc : cs ≤ kc) (hs : sl ≤ ks) (q : Q (some w) h) : Go p l e R s m args below meth c Z n0 Q kc ks h cs sl (mkF m pc Ls (w :: st)) := fun T L hL O X eT => by
  obtain ⟨fs, hr, hrun, hended, hW, hsame⟩ := X.leave (v := some w) (fun h => by rw [C.2.2.2.1] at h; cases h) C.2.2.2.2.1
  subst eT
  exact ⟨_, _, L, retOut X C.1 C.2.2.2.1 (by cases t <;> first | (cases ht; done) | (cases w <;> first | rfl | cases hw)) (Or.inr (Or.inr (Or.inr (Or.inr ⟨rfl, ht, hw⟩)))) (hb C.2.1 hd) hr, hrun, hended, hL, O, hW, hsame.mono hc hs, q⟩
theorem go_callS (C : Ctx p s m meth c Z y bytes maxL ret) {y' : MethodName} {bytes' : ByteArray} {maxL' : Nat} {ret' : Option FieldType} {rm' : Room} {as' : Array Value} {Q' : Option Value → Heap → Prop} {index W : Nat} {argsL rest : List Value} {ps : List FieldType} {r' : Option FieldType} (w1 : (Jvm.Cond.methodLink y.cls index y').before a0 Z = true) (w2 : (Jvm.Cond.static y').before a0 Z = true) (M : Met l Z n0 y' bytes' maxL' ret' [] rm' as' h Q') (wc : (Jvm.Cond.code y' bytes' maxL' ret').before a0 Z = true) (wz : (Jvm.Cond.initialized y'.cls).before a0 Z = true) (hy : y'.cls ≠ "java/lang/invoke/MethodHandle" ∧ y'.cls ≠ "java/lang/invoke/VarHandle") (hf : rm'.frames + 1 ≤ R.frames) (hW : (rest.map fun v => v.category).sum ≤ W) (hl : W + (maxL' + 11) + rm'.locals ≤ R.locals) (hc : cs + rm'.cells ≤ R.cells) (hs : sl + rm'.slots ≤ R.slots) (hsz : Ls.size = maxL)  (hlen : parseMethodDescriptor y'.desc = some ⟨ps, r'⟩) (hal : argsL.length = ps.length) (hst : st = argsL.reverse ++ rest) (has : as' = argsL.toArray) (hd : decode bytes pc = .ok (.invokestatic index, 3)) (hp : pc + 3 = pc')
    (K : ∀ v h', Q' v h' → Go p l e R s m args below meth c Z n0 Q kc ks h' (cs + rm'.cells) (sl + rm'.slots) (mkF m pc' Ls (v.toList ++ rest))) : Go p l e R s m args below meth c Z n0 Q kc ks h cs sl (mkF m pc Ls st) := fun T L0 hL O X eT => by
  subst hp has hst
  obtain ⟨v, _, ⟨T1, L1, k1, n1⟩, -, X1, ⟨Lc1, q1, l1, y1, z1⟩, s1⟩ := Jvm.LawKit.callS X C.1 (y := y') C.2.2.2.2.2.2.1 (mvT C.2.2.2.2.2.1 w1) (mvT C.2.2.2.2.2.1 w2) (mvT C.2.2.2.2.2.1 wz) (mvT C.2.2.2.2.2.1 wc) hy (backOf (W := W) (R := R) (p := p) (e := e) (below := below) (args := args) (len := 3) (Q := fun v h L => Fr n0 L ∧ Old Z n0 h ∧ Q' v h) M C.2.2.2.2.2.1 wc wz hf hl) (g := mkF m pc Ls (argsL.reverse ++ rest)) rfl (hsz.trans C.2.2.1.symm) (argsL := argsL) (rest := rest) (lenOf hlen hal) rfl (by show 2 * 0 + _ ≤ _; omega) (hb C.2.1 hd) (fun _ _ => ⟨rfl, eT, hc, hs⟩)
  dsimp only [Pt.U, Pt.locs, Pt.cells, Pt.slots] at X1 l1 y1 z1 s1 q1
  subst l1 y1 z1
  obtain ⟨N, O', q⟩ := q1
  obtain ⟨U, w, L', h1, r⟩ := K v _ q T1 _ (Fr.app hL N) O' X1 rfl
  exact ⟨U, w, L', s1 _ h1, r⟩
theorem go_callC (C : Ctx p s m meth c Z y bytes maxL ret) {y' : MethodName} {bytes' : ByteArray} {maxL' : Nat} {ret' : Option FieldType} {rm' : Room} {as' : Array Value} {Q' : Option Value → Heap → Prop} {index W : Nat} {argsL rest : List Value} {ps : List FieldType} {r' : Option FieldType} (w1 : (Jvm.Cond.methodLink y.cls index y').before a0 Z = true) (w2 : (Jvm.Cond.instanceMethod y').before a0 Z = true) (hin : y'.name = "<init>") (hr0 : ret' = none) (M : Met l Z n0 y' bytes' maxL' ret' [] rm' as' h Q') (wc : (Jvm.Cond.code y' bytes' maxL' ret').before a0 Z = true) (wz : (Jvm.Cond.initialized y'.cls).before a0 Z = true) (hy : y'.cls ≠ "java/lang/invoke/MethodHandle" ∧ y'.cls ≠ "java/lang/invoke/VarHandle") (hf : rm'.frames + 1 ≤ R.frames) (hW : (rest.map fun v => v.category).sum ≤ W) (hl : W + (maxL' + 11) + rm'.locals ≤ R.locals) (hc : cs + rm'.cells ≤ R.cells) (hs : sl + rm'.slots ≤ R.slots) (hsz : Ls.size = maxL) {a : Addr} (hlen : parseMethodDescriptor y'.desc = some ⟨ps, r'⟩) (hal : argsL.length = ps.length) (hst : st = argsL.reverse ++ .ref a :: rest) (has : as' = (.ref a :: argsL).toArray) (hd : decode bytes pc = .ok (.invokespecial index, 3)) (hp : pc + 3 = pc')
    (K : ∀ v h', Q' v h' → Go p l e R s m args below meth c Z n0 Q kc ks h' (cs + rm'.cells) (sl + rm'.slots) (mkF m pc' Ls (v.toList ++ rest))) : Go p l e R s m args below meth c Z n0 Q kc ks h cs sl (mkF m pc Ls st) := fun T L0 hL O X eT => by
  subst hp has hst
  subst hr0
  obtain ⟨v, _, ⟨T1, L1, k1, n1⟩, -, X1, ⟨Lc1, q1, l1, y1, z1⟩, s1⟩ := X.specialBack C.1 (y := y') hin C.2.2.2.2.2.2.1 (mvT C.2.2.2.2.2.1 w1) (mvT C.2.2.2.2.2.1 w2) (mvT C.2.2.2.2.2.1 wc) hy (backOf (W := W) (R := R) (p := p) (e := e) (below := below) (args := args) (len := 3) (Q := fun v h L => Fr n0 L ∧ Old Z n0 h ∧ Q' v h) M C.2.2.2.2.2.1 wc wz hf hl) (g := mkF m pc Ls (argsL.reverse ++ .ref a :: rest)) rfl (hsz.trans C.2.2.1.symm) (Steps.refl _) (a := a) (argsL := argsL) (rest := rest) (lenOf hlen hal) rfl (by show 2 * 0 + _ ≤ _; omega) (hb C.2.1 hd) (fun _ _ => ⟨rfl, eT, hc, hs⟩)
  dsimp only [Pt.U, Pt.locs, Pt.cells, Pt.slots] at X1 l1 y1 z1 s1 q1
  subst l1 y1 z1
  obtain ⟨N, O', q⟩ := q1
  obtain ⟨U, w, L', h1, r⟩ := K v _ q T1 _ (Fr.app hL N) O' X1 rfl
  exact ⟨U, w, L', s1.trans h1, r⟩
theorem go_callV (C : Ctx p s m meth c Z y bytes maxL ret) {y' : MethodName} {bytes' : ByteArray} {maxL' : Nat} {ret' : Option FieldType} {rm' : Room} {as' : Array Value} {Q' : Option Value → Heap → Prop} {index W : Nat} {argsL rest : List Value} {ps : List FieldType} {r' : Option FieldType} (w1 : (Jvm.Cond.methodLink y.cls index y').before a0 Z = true) (w2 : (Jvm.Cond.declares y').before a0 Z = true) {K0 : String} (w3 : (Jvm.Cond.selects K0 y' y').before a0 Z = true) (w4 : (Jvm.Cond.instanceMethod y').before a0 Z = true) (M : Met l Z n0 y' bytes' maxL' ret' [] rm' as' h Q') (wc : (Jvm.Cond.code y' bytes' maxL' ret').before a0 Z = true) (wz : (Jvm.Cond.initialized y'.cls).before a0 Z = true) (hy : y'.cls ≠ "java/lang/invoke/MethodHandle" ∧ y'.cls ≠ "java/lang/invoke/VarHandle") (hf : rm'.frames + 1 ≤ R.frames) (hW : (rest.map fun v => v.category).sum ≤ W) (hl : W + (maxL' + 11) + rm'.locals ≤ R.locals) (hc : cs + rm'.cells ≤ R.cells) (hs : sl + rm'.slots ≤ R.slots) (hsz : Ls.size = maxL) {a : Addr} (E : Exa Z h a K0) (hlen : parseMethodDescriptor y'.desc = some ⟨ps, r'⟩) (hal : argsL.length = ps.length) (hst : st = argsL.reverse ++ .ref a :: rest) (has : as' = (.ref a :: argsL).toArray) (hd : decode bytes pc = .ok (.invokevirtual index, 3)) (hp : pc + 3 = pc')
    (K : ∀ v h', Q' v h' → Go p l e R s m args below meth c Z n0 Q kc ks h' (cs + rm'.cells) (sl + rm'.slots) (mkF m pc' Ls (v.toList ++ rest))) : Go p l e R s m args below meth c Z n0 Q kc ks h cs sl (mkF m pc Ls st) := fun T L0 hL O X eT => by
  subst hp has hst
  obtain ⟨cq, kq, qa, qb, qc⟩ := isOf C.2.2.2.2.2.1 eT E
  obtain ⟨v, _, ⟨T1, L1, k1, n1⟩, -, X1, ⟨Lc1, q1, l1, y1, z1⟩, s1⟩ := X.virtualBack C.1 (y := y') (z := y') C.2.2.2.2.2.2.1 (mvT C.2.2.2.2.2.1 w1) (mvT C.2.2.2.2.2.1 w2) (notFace_of_selects (args := #[]) (mvT C.2.2.2.2.2.1 w3)) (mvT C.2.2.2.2.2.1 w3) (mvT C.2.2.2.2.2.1 w4) hy (backOf (W := W) (R := R) (p := p) (e := e) (below := below) (args := args) (len := 3) (Q := fun v h L => Fr n0 L ∧ Old Z n0 h ∧ Q' v h) M C.2.2.2.2.2.1 wc wz hf hl) qa qc (g := mkF m pc Ls (argsL.reverse ++ .ref a :: rest)) rfl (hsz.trans C.2.2.1.symm) (Steps.refl _) (argsL := argsL) (rest := rest) (lenOf hlen hal) rfl (by show 2 * 0 + _ ≤ _; omega) (hb C.2.1 hd) (fun _ _ => ⟨rfl, eT, hc, hs⟩)
  dsimp only [Pt.U, Pt.locs, Pt.cells, Pt.slots] at X1 l1 y1 z1 s1 q1
  subst l1 y1 z1
  obtain ⟨N, O', q⟩ := q1
  obtain ⟨U, w, L', h1, r⟩ := K v _ q T1 _ (Fr.app hL N) O' X1 rfl
  exact ⟨U, w, L', s1.trans h1, r⟩
theorem go_callU (C : Ctx p s m meth c Z y bytes maxL ret) {y' : MethodName} {bytes' : ByteArray} {maxL' : Nat} {ret' : Option FieldType} {rm' : Room} {as' : Array Value} {Q' : Option Value → Heap → Prop} {index W : Nat} {argsL rest : List Value} {ps : List FieldType} {r' : Option FieldType} {K1 : String} (w1 : (Jvm.Cond.methodLink y.cls index ⟨K1, y'.name, y'.desc⟩).before a0 Z = true) (w2 : (Jvm.Cond.sameMethod K1 y'.cls y'.name y'.desc).before a0 Z = true) (w3 : (Jvm.Cond.declares y').before a0 Z = true) {K0 : String} (w4 : (Jvm.Cond.selects K0 ⟨K1, y'.name, y'.desc⟩ y').before a0 Z = true) (w5 : (Jvm.Cond.instanceMethod y').before a0 Z = true) (M : Met l Z n0 y' bytes' maxL' ret' [] rm' as' h Q') (wc : (Jvm.Cond.code y' bytes' maxL' ret').before a0 Z = true) (wz : (Jvm.Cond.initialized y'.cls).before a0 Z = true) (hy : y'.cls ≠ "java/lang/invoke/MethodHandle" ∧ y'.cls ≠ "java/lang/invoke/VarHandle") (hf : rm'.frames + 1 ≤ R.frames) (hW : (rest.map fun v => v.category).sum ≤ W) (hl : W + (maxL' + 11) + rm'.locals ≤ R.locals) (hc : cs + rm'.cells ≤ R.cells) (hs : sl + rm'.slots ≤ R.slots) (hsz : Ls.size = maxL) {a : Addr} (E : Exa Z h a K0) (hlen : parseMethodDescriptor y'.desc = some ⟨ps, r'⟩) (hal : argsL.length = ps.length) (hst : st = argsL.reverse ++ .ref a :: rest) (has : as' = (.ref a :: argsL).toArray) (hd : decode bytes pc = .ok (.invokevirtual index, 3)) (hp : pc + 3 = pc')
    (K : ∀ v h', Q' v h' → Go p l e R s m args below meth c Z n0 Q kc ks h' (cs + rm'.cells) (sl + rm'.slots) (mkF m pc' Ls (v.toList ++ rest))) : Go p l e R s m args below meth c Z n0 Q kc ks h cs sl (mkF m pc Ls st) := fun T L0 hL O X eT => by
  subst hp has hst
  obtain ⟨cq, kq, qa, qb, qc⟩ := isOf C.2.2.2.2.2.1 eT E
  obtain ⟨v, _, ⟨T1, L1, k1, n1⟩, -, X1, ⟨Lc1, q1, l1, y1, z1⟩, s1⟩ := X.virtualBackUp C.1 (x := ⟨K1, y'.name, y'.desc⟩) (y := y') (owner := y'.cls) C.2.2.2.2.2.2.1 (mvT C.2.2.2.2.2.1 w1) (mvT C.2.2.2.2.2.1 w2) (mvT C.2.2.2.2.2.1 w3) hy (mvT C.2.2.2.2.2.1 w4) (mvT C.2.2.2.2.2.1 w5) (backOf (W := W) (R := R) (p := p) (e := e) (below := below) (args := args) (len := 3) (Q := fun v h L => Fr n0 L ∧ Old Z n0 h ∧ Q' v h) M C.2.2.2.2.2.1 wc wz hf hl) qa qc (g := mkF m pc Ls (argsL.reverse ++ .ref a :: rest)) rfl (hsz.trans C.2.2.1.symm) (Steps.refl _) (argsL := argsL) (rest := rest) (lenOf hlen hal) rfl (by show 2 * 0 + _ ≤ _; omega) (hb C.2.1 hd) (fun _ _ => ⟨rfl, eT, hc, hs⟩)
  dsimp only [Pt.U, Pt.locs, Pt.cells, Pt.slots] at X1 l1 y1 z1 s1 q1
  subst l1 y1 z1
  obtain ⟨N, O', q⟩ := q1
  obtain ⟨U, w, L', h1, r⟩ := K v _ q T1 _ (Fr.app hL N) O' X1 rfl
  exact ⟨U, w, L', s1.trans h1, r⟩
theorem go_callI (C : Ctx p s m meth c Z y bytes maxL ret) {y' : MethodName} {bytes' : ByteArray} {maxL' : Nat} {ret' : Option FieldType} {rm' : Room} {as' : Array Value} {Q' : Option Value → Heap → Prop} {index W : Nat} {argsL rest : List Value} {ps : List FieldType} {r' : Option FieldType} {xi : MethodName} {count : Nat} (w1 : (Jvm.Cond.methodLink y.cls index xi).before a0 Z = true) (w2 : (Jvm.Cond.declares xi).before a0 Z = true) (w3 : (Jvm.Cond.interfaceMethod xi.cls xi.cls xi.name xi.desc).before a0 Z = true) {K0 : String} (w4 : (Jvm.Cond.selects K0 xi y').before a0 Z = true) (w5 : (Jvm.Cond.instanceMethod y').before a0 Z = true) (w6 : (Jvm.Cond.publicMethod y').before a0 Z = true) (w7 : (Jvm.Cond.unhidden K0 xi.name xi.desc).before a0 Z = true) (w8 : (Jvm.Cond.castable K0 xi.cls).before a0 Z = true) (hfa : (Jvm.Cond.interfaceMethod xi.cls xi.cls xi.name xi.desc).faceAtom = true) (hyi : xi.cls ≠ "java/lang/invoke/MethodHandle" ∧ xi.cls ≠ "java/lang/invoke/VarHandle") (M : Met l Z n0 y' bytes' maxL' ret' [] rm' as' h Q') (wc : (Jvm.Cond.code y' bytes' maxL' ret').before a0 Z = true) (wz : (Jvm.Cond.initialized y'.cls).before a0 Z = true) (hy : y'.cls ≠ "java/lang/invoke/MethodHandle" ∧ y'.cls ≠ "java/lang/invoke/VarHandle") (hf : rm'.frames + 1 ≤ R.frames) (hW : (rest.map fun v => v.category).sum ≤ W) (hl : W + (maxL' + 11) + rm'.locals ≤ R.locals) (hc : cs + rm'.cells ≤ R.cells) (hs : sl + rm'.slots ≤ R.slots) (hsz : Ls.size = maxL) {a : Addr} (E : Exa Z h a K0) (hlen : parseMethodDescriptor xi.desc = some ⟨ps, r'⟩) (hal : argsL.length = ps.length) (hst : st = argsL.reverse ++ .ref a :: rest) (has : as' = (.ref a :: argsL).toArray) (hd : decode bytes pc = .ok (.invokeinterface index count, 5)) (hp : pc + 5 = pc')
    (K : ∀ v h', Q' v h' → Go p l e R s m args below meth c Z n0 Q kc ks h' (cs + rm'.cells) (sl + rm'.slots) (mkF m pc' Ls (v.toList ++ rest))) : Go p l e R s m args below meth c Z n0 Q kc ks h cs sl (mkF m pc Ls st) := fun T L0 hL O X eT => by
  subst hp has hst
  obtain ⟨cq, kq, qa, qb, qc⟩ := isOf C.2.2.2.2.2.1 eT E
  obtain ⟨v, _, ⟨T1, L1, k1, n1⟩, -, X1, ⟨Lc1, q1, l1, y1, z1⟩, s1⟩ := X.interfaceBack C.1 (xi := xi) (y := y') C.2.2.2.2.2.2.1 (mvT C.2.2.2.2.2.1 w1) (mvT C.2.2.2.2.2.1 w2) (mvT C.2.2.2.2.2.1 w3 (by simp [Cond.onTables, Cond.keepsFace, Cond.keeps, Cond.steady, hfa])) (mvT C.2.2.2.2.2.1 w4) (mvT C.2.2.2.2.2.1 w5) (mvT C.2.2.2.2.2.1 w6) (mvT C.2.2.2.2.2.1 w7) (mvT C.2.2.2.2.2.1 w8) hyi (backOf (W := W) (R := R) (p := p) (e := e) (below := below) (args := args) (len := 5) (Q := fun v h L => Fr n0 L ∧ Old Z n0 h ∧ Q' v h) M C.2.2.2.2.2.1 wc wz hf hl) qa qb qc (g := mkF m pc Ls (argsL.reverse ++ .ref a :: rest)) rfl (hsz.trans C.2.2.1.symm) (Steps.refl _) (argsL := argsL) (rest := rest) (lenOf hlen hal) rfl (by show 2 * 0 + _ ≤ _; omega) (hb C.2.1 hd) (fun _ _ => ⟨rfl, eT, hc, hs⟩)
  dsimp only [Pt.U, Pt.locs, Pt.cells, Pt.slots] at X1 l1 y1 z1 s1 q1
  subst l1 y1 z1
  obtain ⟨N, O', q⟩ := q1
  obtain ⟨U, w, L', h1, r⟩ := K v _ q T1 _ (Fr.app hL N) O' X1 rfl
  exact ⟨U, w, L', s1.trans h1, r⟩
def Ar (Z : State) (h : Heap) (a : Addr) (ty : FieldType) (k : ClassId) (vs : List Value) : Prop := ∃ cl : Cell, Arr Z h a cl ty ∧ cl.cls = k ∧ cl.slots.toList = vs
theorem Ar.ext {a : Addr} {ty : FieldType} {k : ClassId} {vs : List Value} (F : Ar Z h a ty k vs) (E : Ext h h') : Ar Z h' a ty k vs := by obtain ⟨cl, A, r⟩ := F; exact ⟨cl, A.ext E, r⟩
theorem Ar.other {a b : Addr} {sl : Nat} {v : Value} {ty : FieldType} {k : ClassId} {vs : List Value} (F : Ar Z h b ty k vs) (W : Wr h h' a sl v) (q : b ≠ a) : Ar Z h' b ty k vs := by obtain ⟨cl, A, r⟩ := F; exact ⟨cl, A.other W q, r⟩
theorem Ar.keep {a : Addr} {ty : FieldType} {k : ClassId} {vs : List Value} {ws : List Addr} (F : Ar Z h a ty k vs) (K : Keep h h' ws) (q : a ∉ ws) : Ar Z h' a ty k vs := by obtain ⟨cl, A, r⟩ := F; exact ⟨cl, ⟨K.2.1 a cl A.1 q, A.2⟩, r⟩
theorem Ar.lt {a : Addr} {ty : FieldType} {k : ClassId} {vs : List Value} (F : Ar Z h a ty k vs) : a < h.size := by obtain ⟨cl, A, r⟩ := F; exact A.lt
theorem Ar.new {a : Addr} {ty : FieldType} {k : ClassId} {n : Int32} {len : Nat} (A : Arr Z h a (newA k ty n) ty) (hn : n.toNatClampNeg = len) : Ar Z h a ty k (List.replicate len (defaultValue ty)) := ⟨_, A, rfl, by subst hn; simp [newA]⟩
theorem Ar.inb {cl : Cell} {vs : List Value} {j : Int32} {i : Nat} (hn : ¬ j < 0) (hj : j.toNatClampNeg = i) (e0 : cl.slots.toList = vs) (hi : i < vs.length) : ¬ (j < 0 ∨ cl.slots.size ≤ j.toNatClampNeg) := by
  subst e0 hj
  rw [Array.length_toList] at hi
  exact fun q => q.elim hn (fun q => absurd hi (Nat.not_lt.mpr q))
theorem Ar.upd {a : Addr} {ty : FieldType} {cl : Cell} {vs : List Value} {j : Int32} {i : Nat} {v : Value} (A : Arr Z h a (cl.setSlot j.toNatClampNeg v) ty) (hj : j.toNatClampNeg = i) (e0 : cl.slots.toList = vs) : Ar Z h a ty cl.cls (vs.set i v) := ⟨_, A, rfl, by subst hj e0; simp [Cell.setSlot]⟩
theorem go_newPA (C : Ctx p s m meth c Z y bytes maxL ret) {aty : ArrayType} {n : Int32} {len : Nat} {ty : FieldType} (hty : newarray.typeOf aty = ty) (w : (Jvm.Cond.arrayClass ty).before a0 Z = true) (hd : decode bytes pc = .ok (.newarray aty, 2)) (hp : pc + 2 = pc') (hn : ¬ n < 0) (hlen : n.toNatClampNeg = len) (hb' : len * 8 ≤ 536870912) (hc : cs + 1 ≤ R.cells) (hl : sl + len ≤ R.slots)
    (K : ∀ h' a k, a = h.size → n0 ≤ a → Ext h h' → Ar Z h' a ty k (List.replicate len (defaultValue ty)) → Go p l e R s m args below meth c Z n0 Q kc ks h' (cs + 1) (sl + len) (mkF m pc' Ls (.ref a :: st))) : Go p l e R s m args below meth c Z n0 Q kc ks h cs sl (mkF m pc Ls (.int n :: st)) := by
  subst hty
  exact go_newP C w hd hp hn (Nat.le_of_eq hlen) hb' hc hl fun h' a k e1 e2 E A => K h' a k e1 e2 E (Ar.new A hlen)
theorem go_newRA (C : Ctx p s m meth c Z y bytes maxL ret) {K0 : String} {index : Nat} {n : Int32} {len : Nat} (w1 : (Jvm.Cond.classLink y.cls index K0).before a0 Z = true) (w2 : (Jvm.Cond.arrayOver (.object K0)).before a0 Z = true) (hd : decode bytes pc = .ok (.anewarray index, 3)) (hp : pc + 3 = pc') (hn : ¬ n < 0) (hlen : n.toNatClampNeg = len) (hb' : len * 8 ≤ 536870912) (hc : cs + 1 ≤ R.cells) (hl : sl + len ≤ R.slots)
    (K : ∀ h' a k, a = h.size → n0 ≤ a → Ext h h' → Ar Z h' a (.object K0) k (List.replicate len .null) → Ovr Z k K0 → Go p l e R s m args below meth c Z n0 Q kc ks h' (cs + 1) (sl + len) (mkF m pc' Ls (.ref a :: st))) : Go p l e R s m args below meth c Z n0 Q kc ks h cs sl (mkF m pc Ls (.int n :: st)) :=
  go_newR C w1 w2 hd hp hn (Nat.le_of_eq hlen) hb' hc hl fun h' a k e1 e2 E A O => K h' a k e1 e2 E (Ar.new A hlen) O
theorem go_iaset (C : Ctx p s m meth c Z y bytes maxL ret) {a : Addr} {k : ClassId} {vs vs' : List Value} {j : Int32} {i : Nat} {x : Int32} (A : Ar Z h a .int k vs) (hn : ¬ j < 0) (hj : j.toNatClampNeg = i) (hi : i < vs.length) (hvs : vs.set i (.int x) = vs') (hd : decode bytes pc = .ok (.iastore, 1)) (hp : pc + 1 = pc') (ha : n0 ≤ a)
    (K : ∀ h', Wr h h' a i (.int x) → Ar Z h' a .int k vs' → Go p l e R s m args below meth c Z n0 Q kc ks h' cs sl (mkF m pc' Ls st)) : Go p l e R s m args below meth c Z n0 Q kc ks h cs sl (mkF m pc Ls (.int x :: .int j :: .ref a :: st)) := by
  obtain ⟨cl, A, rfl, e0⟩ := A
  subst hvs
  exact go_stI C A (Ar.inb hn hj e0 hi) hd hp ha fun h' W A' => K h' (hj ▸ W) (Ar.upd A' hj e0)
theorem go_laset (C : Ctx p s m meth c Z y bytes maxL ret) {a : Addr} {k : ClassId} {vs vs' : List Value} {j : Int32} {i : Nat} {x : Int64} (A : Ar Z h a .long k vs) (hn : ¬ j < 0) (hj : j.toNatClampNeg = i) (hi : i < vs.length) (hvs : vs.set i (.long x) = vs') (hd : decode bytes pc = .ok (.lastore, 1)) (hp : pc + 1 = pc') (ha : n0 ≤ a)
    (K : ∀ h', Wr h h' a i (.long x) → Ar Z h' a .long k vs' → Go p l e R s m args below meth c Z n0 Q kc ks h' cs sl (mkF m pc' Ls st)) : Go p l e R s m args below meth c Z n0 Q kc ks h cs sl (mkF m pc Ls (.long x :: .int j :: .ref a :: st)) := by
  obtain ⟨cl, A, rfl, e0⟩ := A
  subst hvs
  exact go_stJ C A (Ar.inb hn hj e0 hi) hd hp ha fun h' W A' => K h' (hj ▸ W) (Ar.upd A' hj e0)
theorem go_caset (C : Ctx p s m meth c Z y bytes maxL ret) {a : Addr} {k : ClassId} {vs vs' : List Value} {j : Int32} {i : Nat} {x : Int32} (A : Ar Z h a .char k vs) (hn : ¬ j < 0) (hj : j.toNatClampNeg = i) (hi : i < vs.length) (hvs : vs.set i (.int (nar .char x)) = vs') (hd : decode bytes pc = .ok (.castore, 1)) (hp : pc + 1 = pc') (ha : n0 ≤ a)
    (K : ∀ h', Wr h h' a i (.int (nar .char x)) → Ar Z h' a .char k vs' → Go p l e R s m args below meth c Z n0 Q kc ks h' cs sl (mkF m pc' Ls st)) : Go p l e R s m args below meth c Z n0 Q kc ks h cs sl (mkF m pc Ls (.int x :: .int j :: .ref a :: st)) := by
  obtain ⟨cl, A, rfl, e0⟩ := A
  subst hvs
  exact go_stC C A (Ar.inb hn hj e0 hi) hd hp ha fun h' W A' => K h' (hj ▸ W) (Ar.upd A' hj e0)
theorem go_raset (C : Ctx p s m meth c Z y bytes maxL ret) {a b : Addr} {k : ClassId} {K0 : String} {vs vs' : List Value} {j : Int32} {i : Nat} (A : Ar Z h a (.object K0) k vs) (V : Ovr Z k K0) (I : Ins Z h b K0 true) (hn : ¬ j < 0) (hj : j.toNatClampNeg = i) (hi : i < vs.length) (hvs : vs.set i (.ref b) = vs') (hd : decode bytes pc = .ok (.aastore, 1)) (hp : pc + 1 = pc') (ha : n0 ≤ a)
    (K : ∀ h', Wr h h' a i (.ref b) → Ar Z h' a (.object K0) k vs' → Go p l e R s m args below meth c Z n0 Q kc ks h' cs sl (mkF m pc' Ls st)) : Go p l e R s m args below meth c Z n0 Q kc ks h cs sl (mkF m pc Ls (.ref b :: .int j :: .ref a :: st)) := by
  obtain ⟨cl, A, rfl, e0⟩ := A
  subst hvs
  exact go_stR C A (Ar.inb hn hj e0 hi) rfl (Sto.of A V I) hd hp ha fun h' W A' => K h' (hj ▸ W) (Ar.upd A' hj e0)
theorem go_raget (C : Ctx p s m meth c Z y bytes maxL ret) {a : Addr} {k : ClassId} {vs : List Value} {ty : FieldType} {j : Int32} {i : Nat} {v : Value} (A : Ar Z h a ty k vs) (hty : ty.isReference = true) (hn : ¬ j < 0) (hj : j.toNatClampNeg = i) (hv : vs[i]? = some v) (hd : decode bytes pc = .ok (.aaload, 1)) (hp : pc + 1 = pc') (K : Go p l e R s m args below meth c Z n0 Q kc ks h cs sl (mkF m pc' Ls (v :: st))) : Go p l e R s m args below meth c Z n0 Q kc ks h cs sl (mkF m pc Ls (.int j :: .ref a :: st)) := by
  obtain ⟨cl, A, rfl, e0⟩ := A
  exact go_aaload C A hty (Ar.inb hn hj e0 (List.getElem?_eq_some_iff.mp hv).1) (by subst e0 hj; rw [← hv, Array.getElem?_toList]) hd hp K
theorem go_alen (C : Ctx p s m meth c Z y bytes maxL ret) {a : Addr} {k : ClassId} {vs : List Value} {ty : FieldType} {z : Int32} (A : Ar Z h a ty k vs) (hz : vs.length.toInt32 = z) (hd : decode bytes pc = .ok (.arraylength, 1)) (hp : pc + 1 = pc') (K : Go p l e R s m args below meth c Z n0 Q kc ks h cs sl (mkF m pc' Ls (.int z :: st))) : Go p l e R s m args below meth c Z n0 Q kc ks h cs sl (mkF m pc Ls (.ref a :: st)) := by
  obtain ⟨cl, A, rfl, e0⟩ := A
  exact go_arraylength C A (by rw [← hz, ← e0, Array.length_toList]) hd hp K
theorem go_iaget (C : Ctx p s m meth c Z y bytes maxL ret) {a : Addr} {k : ClassId} {vs : List Value} {j : Int32} {i : Nat} {v : Value} (A : Ar Z h a .int k vs) (hn : ¬ j < 0) (hj : j.toNatClampNeg = i) (hv : vs[i]? = some v) (hd : decode bytes pc = .ok (.iaload, 1)) (hp : pc + 1 = pc') (K : Go p l e R s m args below meth c Z n0 Q kc ks h cs sl (mkF m pc' Ls (v :: st))) : Go p l e R s m args below meth c Z n0 Q kc ks h cs sl (mkF m pc Ls (.int j :: .ref a :: st)) := by
  obtain ⟨cl, A, rfl, e0⟩ := A
  exact go_iaload C A (Ar.inb hn hj e0 (List.getElem?_eq_some_iff.mp hv).1) (by subst e0 hj; rw [← hv, Array.getElem?_toList]) hd hp K
theorem go_laget (C : Ctx p s m meth c Z y bytes maxL ret) {a : Addr} {k : ClassId} {vs : List Value} {j : Int32} {i : Nat} {v : Value} (A : Ar Z h a .long k vs) (hn : ¬ j < 0) (hj : j.toNatClampNeg = i) (hv : vs[i]? = some v) (hd : decode bytes pc = .ok (.laload, 1)) (hp : pc + 1 = pc') (K : Go p l e R s m args below meth c Z n0 Q kc ks h cs sl (mkF m pc' Ls (v :: st))) : Go p l e R s m args below meth c Z n0 Q kc ks h cs sl (mkF m pc Ls (.int j :: .ref a :: st)) := by
  obtain ⟨cl, A, rfl, e0⟩ := A
  exact go_laload C A (Ar.inb hn hj e0 (List.getElem?_eq_some_iff.mp hv).1) (by subst e0 hj; rw [← hv, Array.getElem?_toList]) hd hp K
theorem go_caget (C : Ctx p s m meth c Z y bytes maxL ret) {a : Addr} {k : ClassId} {vs : List Value} {j : Int32} {i : Nat} {v : Value} (A : Ar Z h a .char k vs) (hn : ¬ j < 0) (hj : j.toNatClampNeg = i) (hv : vs[i]? = some v) (hd : decode bytes pc = .ok (.caload, 1)) (hp : pc + 1 = pc') (K : Go p l e R s m args below meth c Z n0 Q kc ks h cs sl (mkF m pc' Ls (v :: st))) : Go p l e R s m args below meth c Z n0 Q kc ks h cs sl (mkF m pc Ls (.int j :: .ref a :: st)) := by
  obtain ⟨cl, A, rfl, e0⟩ := A
  exact go_caload C A (Ar.inb hn hj e0 (List.getElem?_eq_some_iff.mp hv).1) (by subst e0 hj; rw [← hv, Array.getElem?_toList]) hd hp K
theorem go_clone (C : Ctx p s m meth c Z y bytes maxL ret) {ad : String} {index : Nat} {a : Addr} {ty : FieldType} {k : ClassId} {vs : List Value} {len W : Nat}
    (w1 : (Jvm.Cond.methodLink y.cls index ⟨ad, "clone", "()Ljava/lang/Object;"⟩).before a0 Z = true) (w2 : (Jvm.Cond.sameMethod ad "java/lang/Object" "clone" "()Ljava/lang/Object;").before a0 Z = true) (w3 : (Jvm.Cond.native ⟨"java/lang/Object", "clone", "()Ljava/lang/Object;"⟩).before a0 Z = true)
    (w4 : (Jvm.Cond.instanceMethod ⟨"java/lang/Object", "clone", "()Ljava/lang/Object;"⟩).before a0 Z = true) (w5 : (Jvm.Cond.selects ad ⟨ad, "clone", "()Ljava/lang/Object;"⟩ ⟨"java/lang/Object", "clone", "()Ljava/lang/Object;"⟩).before a0 Z = true) (w6 : (Jvm.Cond.castable ad "java/lang/Cloneable").before a0 Z = true)
    (A : Ar Z h a ty k vs) (E : Exa Z h a ad) (hfit : ∀ v ∈ vs, fits ty v = true) (hsz : Ls.size = maxL) (hd : decode bytes pc = .ok (.invokevirtual index, 3)) (hp : pc + 3 = pc') (hf : 1 ≤ R.frames) (hW : (st.map fun v => v.category).sum ≤ W) (hl : W + 14 ≤ R.locals) (hlen : vs.length = len) (hc : cs + 1 ≤ R.cells) (hsl : sl + len ≤ R.slots)
    (K : ∀ h' b, b = h.size → n0 ≤ b → Ext h h' → Ar Z h' b ty k vs → Exa Z h' b ad → Go p l e R s m args below meth c Z n0 Q kc ks h' (cs + 1) (sl + len) (mkF m pc' Ls (.ref b :: st))) : Go p l e R s m args below meth c Z n0 Q kc ks h cs sl (mkF m pc Ls (.ref a :: st)) := fun T L0 hL O X eT => by
  subst hp
  obtain ⟨cl, A, hk', e0⟩ := A
  have FC : FitC Z cl := fitC_of A fun i hi v hv => hfit v (by subst e0; exact List.mem_of_getElem? (by rw [Array.getElem?_toList]; exact hv))
  obtain ⟨T', h', X', e', E', A', Ex', hs⟩ := cloneA X C.1 C.2.2.2.2.2.1 C.2.2.2.2.2.2.1 w1 w2 w3 w4 w5 w6 eT A E FC (g := mkF m pc Ls (.ref a :: st)) rfl (hsz.trans C.2.2.1.symm) rfl (hb C.2.1 hd) hf (W := W) (by show 2 * 0 + _ ≤ _; omega) hl (cap := len) (by rw [← hlen, ← e0, Array.length_toList]; exact Nat.le_refl _) hc hsl
  obtain ⟨U, v, L', h1, r⟩ := K h' h.size rfl (O.1 ▸ O.2.1) E' ⟨cloneOf cl, A', hk', e0⟩ Ex' T' _ hL (O.ext E') X' e'
  exact ⟨U, v, L', hs U h1, r⟩
theorem go_newPE (C : Ctx p s m meth c Z y bytes maxL ret) {aty : ArrayType} {n : Int32} {len : Nat} {ty : FieldType} {ad : String} (hty : newarray.typeOf aty = ty) (had : "[" ++ ty.toString = ad) (w : (Jvm.Cond.arrayClass ty).before a0 Z = true) (hd : decode bytes pc = .ok (.newarray aty, 2)) (hp : pc + 2 = pc') (hn : ¬ n < 0) (hlen : n.toNatClampNeg = len) (hb' : len * 8 ≤ 536870912) (hc : cs + 1 ≤ R.cells) (hl : sl + len ≤ R.slots)
    (K : ∀ h' a k, a = h.size → n0 ≤ a → Ext h h' → Ar Z h' a ty k (List.replicate len (defaultValue ty)) → Exa Z h' a ad → Go p l e R s m args below meth c Z n0 Q kc ks h' (cs + 1) (sl + len) (mkF m pc' Ls (.ref a :: st))) : Go p l e R s m args below meth c Z n0 Q kc ks h cs sl (mkF m pc Ls (.int n :: st)) := fun T L0 hL O X eT => by
  subst hp hty
  obtain ⟨T', h', k, X', e', E, A, Ex, hs⟩ := newPE X C.1 C.2.2.2.2.2.1 w eT (g := mkF m pc Ls (.int n :: st)) rfl (hb C.2.1 hd) rfl hn (Nat.le_of_eq hlen) hb' hc hl had
  obtain ⟨U, v, L', h1, r⟩ := K h' h.size k rfl (O.1 ▸ O.2.1) E (Ar.new A hlen) Ex T' _ hL (O.ext E) X' e'
  exact ⟨U, v, L', hs U h1, r⟩
theorem go_newAA (C : Ctx p s m meth c Z y bytes maxL ret) {K0 ad : String} {ty : FieldType} {index : Nat} {n : Int32} {len : Nat} (hC : (FieldType.array ty).toString = K0) (had : "[" ++ K0 = ad) (w1 : (Jvm.Cond.classLink y.cls index K0).before a0 Z = true) (w2 : (Jvm.Cond.arrayOver (.array ty)).before a0 Z = true) (hd : decode bytes pc = .ok (.anewarray index, 3)) (hp : pc + 3 = pc') (hn : ¬ n < 0) (hlen : n.toNatClampNeg = len) (hb' : len * 8 ≤ 536870912) (hc : cs + 1 ≤ R.cells) (hl : sl + len ≤ R.slots)
    (K : ∀ h' a k, a = h.size → n0 ≤ a → Ext h h' → Ar Z h' a (.array ty) k (List.replicate len .null) → OvrA Z k ty K0 → Exa Z h' a ad → Go p l e R s m args below meth c Z n0 Q kc ks h' (cs + 1) (sl + len) (mkF m pc' Ls (.ref a :: st))) : Go p l e R s m args below meth c Z n0 Q kc ks h cs sl (mkF m pc Ls (.int n :: st)) := fun T L0 hL O X eT => by
  subst hp
  obtain ⟨T', h', k, X', e', E, A, Ex, V, hs⟩ := newRA X C.1 C.2.2.2.2.2.1 C.2.2.2.2.2.2.1 hC w1 w2 eT (g := mkF m pc Ls (.int n :: st)) rfl (hb C.2.1 hd) rfl hn (Nat.le_of_eq hlen) hb' hc hl had
  obtain ⟨U, v, L', h1, r⟩ := K h' h.size k rfl (O.1 ▸ O.2.1) E (Ar.new A hlen) V Ex T' _ hL (O.ext E) X' e'
  exact ⟨U, v, L', hs U h1, r⟩
theorem go_aaset (C : Ctx p s m meth c Z y bytes maxL ret) {a b : Addr} {k : ClassId} {K0 : String} {ty : FieldType} {vs vs' : List Value} {j : Int32} {i : Nat} (A : Ar Z h a (.array ty) k vs) (V : OvrA Z k ty K0) (I : Ins Z h b K0 true) (hn : ¬ j < 0) (hj : j.toNatClampNeg = i) (hi : i < vs.length) (hvs : vs.set i (.ref b) = vs') (hd : decode bytes pc = .ok (.aastore, 1)) (hp : pc + 1 = pc') (ha : n0 ≤ a)
    (K : ∀ h', Wr h h' a i (.ref b) → Ar Z h' a (.array ty) k vs' → Go p l e R s m args below meth c Z n0 Q kc ks h' cs sl (mkF m pc' Ls st)) : Go p l e R s m args below meth c Z n0 Q kc ks h cs sl (mkF m pc Ls (.ref b :: .int j :: .ref a :: st)) := by
  obtain ⟨cl, A, rfl, e0⟩ := A
  subst hvs
  exact go_stR C A (Ar.inb hn hj e0 hi) rfl (Sto.ofVA A rfl V I) hd hp ha fun h' W A' => K h' (hj ▸ W) (Ar.upd A' hj e0)
theorem go_dupX2 (C : Ctx p s m meth c Z y bytes maxL ret) {u v w : Value} (hd : decode bytes pc = .ok (.dup_x2, 1)) (hu : u.category = 1) (hv : v.category = 1) (hw : w.category = 1) (hp : pc + 1 = pc') (K : Go p l e R s m args below meth c Z n0 Q kc ks h cs sl (mkF m pc' Ls (u :: v :: w :: u :: st))) : Go p l e R s m args below meth c Z n0 Q kc ks h cs sl (mkF m pc Ls (u :: v :: w :: st)) := by
  subst hp
  refine go_step K fun T t a k => ?_
  have hx := C.1
  have hd' := hb C.2.1 hd
  jvm_step a [a.top, hx, hd', hu, hv, hw]
  exact k
theorem go_callP (C : Ctx p s m meth c Z y bytes maxL ret) {y' : MethodName} {bytes' : ByteArray} {maxL' : Nat} {ret' : Option FieldType} {rm' : Room} {as' : Array Value} {Q' : Option Value → Heap → Prop} {index W : Nat} {argsL rest : List Value} {ps : List FieldType} {r' : Option FieldType} (w1 : (Jvm.Cond.methodLink y.cls index y').before a0 Z = true) (w2 : (Jvm.Cond.instanceMethod y').before a0 Z = true) (w3 : (Jvm.Cond.privateMethod y').before a0 Z = true) {nn : Nat} (wi : (Jvm.Cond.instantiable y'.cls nn).before a0 Z = true) (M : Met l Z n0 y' bytes' maxL' ret' [] rm' as' h Q') (wc : (Jvm.Cond.code y' bytes' maxL' ret').before a0 Z = true) (wz : (Jvm.Cond.initialized y'.cls).before a0 Z = true) (hy : y'.cls ≠ "java/lang/invoke/MethodHandle" ∧ y'.cls ≠ "java/lang/invoke/VarHandle") (hf : rm'.frames + 1 ≤ R.frames) (hW : (rest.map fun v => v.category).sum ≤ W) (hl : W + (maxL' + 11) + rm'.locals ≤ R.locals) (hc : cs + rm'.cells ≤ R.cells) (hs : sl + rm'.slots ≤ R.slots) (hsz : Ls.size = maxL) {a : Addr} {K0 : String} (E : Exa Z h a K0) (hlen : parseMethodDescriptor y'.desc = some ⟨ps, r'⟩) (hal : argsL.length = ps.length) (hst : st = argsL.reverse ++ .ref a :: rest) (has : as' = (.ref a :: argsL).toArray) (hd : decode bytes pc = .ok (.invokevirtual index, 3)) (hp : pc + 3 = pc')
    (K : ∀ v h', Q' v h' → Go p l e R s m args below meth c Z n0 Q kc ks h' (cs + rm'.cells) (sl + rm'.slots) (mkF m pc' Ls (v.toList ++ rest))) : Go p l e R s m args below meth c Z n0 Q kc ks h cs sl (mkF m pc Ls st) := fun T L0 hL O X eT => by
  subst hp has hst
  obtain ⟨mk, methM, hnamed, hmethM, hstM, habM⟩ := Cond.instanceMethod_spec (mvT (args := args) C.2.2.2.2.2.1 w2)
  obtain ⟨methM', cM, hmethM', -, -, -, -, -, -, hsigM⟩ := Cond.code_spec hnamed (mvT (args := args) C.2.2.2.2.2.1 wc)
  cases hmethM.symm.trans hmethM'
  obtain ⟨c0, kP, i1, hkP, -, hkPi0, -⟩ := Cond.instantiable_spec (mvT (args := args) C.2.2.2.2.2.1 wi)
  have hkPi := (Bool.or_eq_false_iff.mp hkPi0).1
  cases (findClass_of_methodNamed hnamed).symm.trans i1
  obtain ⟨cell, hcell0, hobj⟩ := E.cell
  have hcell : T.heap[a]? = some cell := by rw [eT]; exact hcell0
  have hselP : selectMethod e.platform s.vm cell.cls mk = .method mk := selectMethod_private hmethM (Cond.privateMethod_at (mvP (args := args) C.2.2.2.2.2.1 w3) mk methM hnamed hmethM)
  obtain ⟨vm₁, X₁, hstep₁⟩ := X.invokevirtual C.1 C.2.2.2.2.2.2.1 (mvT C.2.2.2.2.2.1 w1) hnamed hmethM hstM hkP hkPi hy (a := a) (cell := cell) hcell hobj hselP hmethM habM hkP hkPi (g := mkF m pc Ls (argsL.reverse ++ .ref a :: rest)) rfl (argsL := argsL) (rest := rest) (lenOf hlen hal _ hsigM) rfl (hb C.2.1 hd)
  obtain ⟨v, ⟨T1, L1, k1, n1⟩, X1, ⟨Lc1, q1, l1, y1, z1⟩, hsteps⟩ := (backOf (W := W) (R := R) (p := p) (e := e) (below := below) (args := args) (len := 3) (Q := fun v h L => Fr n0 L ∧ Old Z n0 h ∧ Q' v h) M C.2.2.2.2.2.1 wc wz hf hl) m meth c ⟨T.setVm vm₁, L0, cs, sl⟩ (mkF m pc Ls rest) (.invokevirtual index) mk (.ref a :: argsL).toArray X₁ rfl (hsz.trans C.2.2.1.symm) (hb C.2.1 hd) (by show 2 * 0 + (rest.map fun v => v.category).sum ≤ W; omega) (X₁.named hnamed) ⟨rfl, eT, hc, hs⟩
  have s1 := (hstep₁ _ fun acts => by rw [doInvoke_state]; exact Steps.refl _).trans hsteps
  dsimp only [Pt.U, Pt.locs, Pt.cells, Pt.slots] at X1 l1 y1 z1 s1 q1
  subst l1 y1 z1
  obtain ⟨N, O', q⟩ := q1
  obtain ⟨U, w, L', h1, r⟩ := K v _ q T1 _ (Fr.app hL N) O' X1 rfl
  exact ⟨U, w, L', s1.trans h1, r⟩
end OwnGo
theorem wd_0 {Z : State} {a0 : Array Value} (hw : ∀ d ∈ tables_1, d.before a0 Z = true) : (Jvm.Cond.constant "com/example/invariant/invariant/check/BucketQueuePopPinLaw" (7 : Nat) (2147483647 : Int32)).before a0 Z = true := hw _ (List.mem_of_getElem? (i := 0) rfl)
theorem wd_1 {Z : State} {a0 : Array Value} (hw : ∀ d ∈ tables_1, d.before a0 Z = true) : (Jvm.Cond.classLink "com/example/invariant/invariant/check/BucketQueuePopPinLaw" (8 : Nat) "com/example/invariant/invariant/check/BucketQueue").before a0 Z = true := hw _ (List.mem_of_getElem? (i := 1) rfl)
theorem wd_2 {Z : State} {a0 : Array Value} (hw : ∀ d ∈ tables_1, d.before a0 Z = true) : (Jvm.Cond.instantiable "com/example/invariant/invariant/check/BucketQueue" (4 : Nat)).before a0 Z = true := hw _ (List.mem_of_getElem? (i := 2) rfl)
theorem wd_3 {Z : State} {a0 : Array Value} (hw : ∀ d ∈ tables_1, d.before a0 Z = true) : (Jvm.Cond.initialized "com/example/invariant/invariant/check/BucketQueue").before a0 Z = true := hw _ (List.mem_of_getElem? (i := 3) rfl)
theorem wd_4 {Z : State} {a0 : Array Value} (hw : ∀ d ∈ tables_1, d.before a0 Z = true) : (Jvm.Cond.methodLink "com/example/invariant/invariant/check/BucketQueuePopPinLaw" (10 : Nat) ({ cls := "com/example/invariant/invariant/check/BucketQueue", name := "<init>", desc := "(I)V" } : Jvm.MethodName)).before a0 Z = true := hw _ (List.mem_of_getElem? (i := 4) rfl)
theorem wd_5 {Z : State} {a0 : Array Value} (hw : ∀ d ∈ tables_1, d.before a0 Z = true) : (Jvm.Cond.instanceMethod ({ cls := "com/example/invariant/invariant/check/BucketQueue", name := "<init>", desc := "(I)V" } : Jvm.MethodName)).before a0 Z = true := hw _ (List.mem_of_getElem? (i := 5) rfl)
theorem wd_6 {Z : State} {a0 : Array Value} (hw : ∀ d ∈ tables_1, d.before a0 Z = true) : (Jvm.Cond.code ({ cls := "com/example/invariant/invariant/check/BucketQueue", name := "<init>", desc := "(I)V" } : Jvm.MethodName) prog_51_method_1_code (3 : Nat) (Option.none : Option Jvm.ClassFile.FieldType)).before a0 Z = true := hw _ (List.mem_of_getElem? (i := 6) rfl)
theorem wd_7 {Z : State} {a0 : Array Value} (hw : ∀ d ∈ tables_1, d.before a0 Z = true) : (Jvm.Cond.methodLink "com/example/invariant/invariant/check/BucketQueue" (1 : Nat) ({ cls := "java/lang/Object", name := "<init>", desc := "()V" } : Jvm.MethodName)).before a0 Z = true := hw _ (List.mem_of_getElem? (i := 7) rfl)
theorem wd_8 {Z : State} {a0 : Array Value} (hw : ∀ d ∈ tables_1, d.before a0 Z = true) : (Jvm.Cond.instanceMethod ({ cls := "java/lang/Object", name := "<init>", desc := "()V" } : Jvm.MethodName)).before a0 Z = true := hw _ (List.mem_of_getElem? (i := 8) rfl)
theorem wd_9 {Z : State} {a0 : Array Value} (hw : ∀ d ∈ tables_1, d.before a0 Z = true) : (Jvm.Cond.code ({ cls := "java/lang/Object", name := "<init>", desc := "()V" } : Jvm.MethodName) object_method_1_code (1 : Nat) (Option.none : Option Jvm.ClassFile.FieldType)).before a0 Z = true := hw _ (List.mem_of_getElem? (i := 9) rfl)
theorem wd_10 {Z : State} {a0 : Array Value} (hw : ∀ d ∈ tables_1, d.before a0 Z = true) : (Jvm.Cond.classLink "com/example/invariant/invariant/check/BucketQueue" (7 : Nat) "[I").before a0 Z = true := hw _ (List.mem_of_getElem? (i := 10) rfl)
theorem wd_11 {Z : State} {a0 : Array Value} (hw : ∀ d ∈ tables_1, d.before a0 Z = true) : (Jvm.Cond.arrayOver (Jvm.ClassFile.FieldType.array Jvm.ClassFile.FieldType.int)).before a0 Z = true := hw _ (List.mem_of_getElem? (i := 11) rfl)
theorem wd_12 {Z : State} {a0 : Array Value} (hw : ∀ d ∈ tables_1, d.before a0 Z = true) : (Jvm.Cond.fieldLink "com/example/invariant/invariant/check/BucketQueue" (9 : Nat) "com/example/invariant/invariant/check/BucketQueue" "buckets" "[[I").before a0 Z = true := hw _ (List.mem_of_getElem? (i := 12) rfl)
theorem wd_13 {Z : State} {a0 : Array Value} (hw : ∀ d ∈ tables_1, d.before a0 Z = true) : (Jvm.Cond.laysFinal "com/example/invariant/invariant/check/BucketQueue" "com/example/invariant/invariant/check/BucketQueue" "buckets" "[[I").before a0 Z = true := hw _ (List.mem_of_getElem? (i := 13) rfl)
theorem wd_14 {Z : State} {a0 : Array Value} (hw : ∀ d ∈ tables_1, d.before a0 Z = true) : (Jvm.Cond.arrayClass Jvm.ClassFile.FieldType.int).before a0 Z = true := hw _ (List.mem_of_getElem? (i := 14) rfl)
theorem wd_15 {Z : State} {a0 : Array Value} (hw : ∀ d ∈ tables_1, d.before a0 Z = true) : (Jvm.Cond.fieldLink "com/example/invariant/invariant/check/BucketQueue" (15 : Nat) "com/example/invariant/invariant/check/BucketQueue" "counts" "[I").before a0 Z = true := hw _ (List.mem_of_getElem? (i := 15) rfl)
theorem wd_16 {Z : State} {a0 : Array Value} (hw : ∀ d ∈ tables_1, d.before a0 Z = true) : (Jvm.Cond.laysFinal "com/example/invariant/invariant/check/BucketQueue" "com/example/invariant/invariant/check/BucketQueue" "counts" "[I").before a0 Z = true := hw _ (List.mem_of_getElem? (i := 16) rfl)
theorem wd_18 {Z : State} {a0 : Array Value} (hw : ∀ d ∈ tables_1, d.before a0 Z = true) : (Jvm.Cond.methodLink "com/example/invariant/invariant/check/BucketQueuePopPinLaw" (13 : Nat) ({ cls := "com/example/invariant/invariant/check/BucketQueue", name := "isEmpty", desc := "()Z" } : Jvm.MethodName)).before a0 Z = true := hw _ (List.mem_of_getElem? (i := 18) rfl)
theorem wd_19 {Z : State} {a0 : Array Value} (hw : ∀ d ∈ tables_1, d.before a0 Z = true) : (Jvm.Cond.declares ({ cls := "com/example/invariant/invariant/check/BucketQueue", name := "isEmpty", desc := "()Z" } : Jvm.MethodName)).before a0 Z = true := hw _ (List.mem_of_getElem? (i := 19) rfl)
theorem wd_20 {Z : State} {a0 : Array Value} (hw : ∀ d ∈ tables_1, d.before a0 Z = true) : (Jvm.Cond.instanceMethod ({ cls := "com/example/invariant/invariant/check/BucketQueue", name := "isEmpty", desc := "()Z" } : Jvm.MethodName)).before a0 Z = true := hw _ (List.mem_of_getElem? (i := 20) rfl)
theorem wd_21 {Z : State} {a0 : Array Value} (hw : ∀ d ∈ tables_1, d.before a0 Z = true) : (Jvm.Cond.selects "com/example/invariant/invariant/check/BucketQueue" ({ cls := "com/example/invariant/invariant/check/BucketQueue", name := "isEmpty", desc := "()Z" } : Jvm.MethodName) ({ cls := "com/example/invariant/invariant/check/BucketQueue", name := "isEmpty", desc := "()Z" } : Jvm.MethodName)).before a0 Z = true := hw _ (List.mem_of_getElem? (i := 21) rfl)
theorem wd_22 {Z : State} {a0 : Array Value} (hw : ∀ d ∈ tables_1, d.before a0 Z = true) : (Jvm.Cond.code ({ cls := "com/example/invariant/invariant/check/BucketQueue", name := "isEmpty", desc := "()Z" } : Jvm.MethodName) prog_51_method_2_code (1 : Nat) (Option.some Jvm.ClassFile.FieldType.boolean)).before a0 Z = true := hw _ (List.mem_of_getElem? (i := 22) rfl)
theorem wd_23 {Z : State} {a0 : Array Value} (hw : ∀ d ∈ tables_1, d.before a0 Z = true) : (Jvm.Cond.fieldLink "com/example/invariant/invariant/check/BucketQueue" (18 : Nat) "com/example/invariant/invariant/check/BucketQueue" "size" "J").before a0 Z = true := hw _ (List.mem_of_getElem? (i := 23) rfl)
theorem wd_24 {Z : State} {a0 : Array Value} (hw : ∀ d ∈ tables_1, d.before a0 Z = true) : (Jvm.Cond.lays "com/example/invariant/invariant/check/BucketQueue" "com/example/invariant/invariant/check/BucketQueue" "size" "J").before a0 Z = true := hw _ (List.mem_of_getElem? (i := 24) rfl)
theorem wd_25 {Z : State} {a0 : Array Value} (hw : ∀ d ∈ tables_1, d.before a0 Z = true) : (Jvm.Cond.methodLink "com/example/invariant/invariant/check/BucketQueuePopPinLaw" (17 : Nat) ({ cls := "com/example/invariant/invariant/check/BucketQueue", name := "push", desc := "(IJ)V" } : Jvm.MethodName)).before a0 Z = true := hw _ (List.mem_of_getElem? (i := 25) rfl)
theorem wd_26 {Z : State} {a0 : Array Value} (hw : ∀ d ∈ tables_1, d.before a0 Z = true) : (Jvm.Cond.declares ({ cls := "com/example/invariant/invariant/check/BucketQueue", name := "push", desc := "(IJ)V" } : Jvm.MethodName)).before a0 Z = true := hw _ (List.mem_of_getElem? (i := 26) rfl)
theorem wd_27 {Z : State} {a0 : Array Value} (hw : ∀ d ∈ tables_1, d.before a0 Z = true) : (Jvm.Cond.instanceMethod ({ cls := "com/example/invariant/invariant/check/BucketQueue", name := "push", desc := "(IJ)V" } : Jvm.MethodName)).before a0 Z = true := hw _ (List.mem_of_getElem? (i := 27) rfl)
theorem wd_28 {Z : State} {a0 : Array Value} (hw : ∀ d ∈ tables_1, d.before a0 Z = true) : (Jvm.Cond.selects "com/example/invariant/invariant/check/BucketQueue" ({ cls := "com/example/invariant/invariant/check/BucketQueue", name := "push", desc := "(IJ)V" } : Jvm.MethodName) ({ cls := "com/example/invariant/invariant/check/BucketQueue", name := "push", desc := "(IJ)V" } : Jvm.MethodName)).before a0 Z = true := hw _ (List.mem_of_getElem? (i := 28) rfl)
theorem wd_29 {Z : State} {a0 : Array Value} (hw : ∀ d ∈ tables_1, d.before a0 Z = true) : (Jvm.Cond.code ({ cls := "com/example/invariant/invariant/check/BucketQueue", name := "push", desc := "(IJ)V" } : Jvm.MethodName) prog_51_method_3_code (5 : Nat) (Option.none : Option Jvm.ClassFile.FieldType)).before a0 Z = true := hw _ (List.mem_of_getElem? (i := 29) rfl)
theorem wd_30 {Z : State} {a0 : Array Value} (hw : ∀ d ∈ tables_1, d.before a0 Z = true) : (Jvm.Cond.methodLink "com/example/invariant/invariant/check/BucketQueuePopPinLaw" (21 : Nat) ({ cls := "com/example/invariant/invariant/check/BucketQueue", name := "pop", desc := "()I" } : Jvm.MethodName)).before a0 Z = true := hw _ (List.mem_of_getElem? (i := 30) rfl)
theorem wd_31 {Z : State} {a0 : Array Value} (hw : ∀ d ∈ tables_1, d.before a0 Z = true) : (Jvm.Cond.declares ({ cls := "com/example/invariant/invariant/check/BucketQueue", name := "pop", desc := "()I" } : Jvm.MethodName)).before a0 Z = true := hw _ (List.mem_of_getElem? (i := 31) rfl)
theorem wd_32 {Z : State} {a0 : Array Value} (hw : ∀ d ∈ tables_1, d.before a0 Z = true) : (Jvm.Cond.instanceMethod ({ cls := "com/example/invariant/invariant/check/BucketQueue", name := "pop", desc := "()I" } : Jvm.MethodName)).before a0 Z = true := hw _ (List.mem_of_getElem? (i := 32) rfl)
theorem wd_33 {Z : State} {a0 : Array Value} (hw : ∀ d ∈ tables_1, d.before a0 Z = true) : (Jvm.Cond.selects "com/example/invariant/invariant/check/BucketQueue" ({ cls := "com/example/invariant/invariant/check/BucketQueue", name := "pop", desc := "()I" } : Jvm.MethodName) ({ cls := "com/example/invariant/invariant/check/BucketQueue", name := "pop", desc := "()I" } : Jvm.MethodName)).before a0 Z = true := hw _ (List.mem_of_getElem? (i := 33) rfl)
theorem wd_34 {Z : State} {a0 : Array Value} (hw : ∀ d ∈ tables_1, d.before a0 Z = true) : (Jvm.Cond.code ({ cls := "com/example/invariant/invariant/check/BucketQueue", name := "pop", desc := "()I" } : Jvm.MethodName) prog_51_method_4_code (2 : Nat) (Option.some Jvm.ClassFile.FieldType.int)).before a0 Z = true := hw _ (List.mem_of_getElem? (i := 34) rfl)
theorem wd_35 {Z : State} {a0 : Array Value} (hw : ∀ d ∈ tables_1, d.before a0 Z = true) : (Jvm.Cond.fieldLink "com/example/invariant/invariant/check/BucketQueue" (28 : Nat) "com/example/invariant/invariant/check/BucketQueue" "lowest" "J").before a0 Z = true := hw _ (List.mem_of_getElem? (i := 35) rfl)
theorem wd_36 {Z : State} {a0 : Array Value} (hw : ∀ d ∈ tables_1, d.before a0 Z = true) : (Jvm.Cond.lays "com/example/invariant/invariant/check/BucketQueue" "com/example/invariant/invariant/check/BucketQueue" "lowest" "J").before a0 Z = true := hw _ (List.mem_of_getElem? (i := 36) rfl)
theorem wd_37 {Z : State} {a0 : Array Value} (hw : ∀ d ∈ tables_1, d.before a0 Z = true) : (Jvm.Cond.methodLink "com/example/invariant/invariant/check/BucketQueuePopPinLaw" (25 : Nat) ({ cls := "com/example/invariant/invariant/check/BucketQueue", name := "lowest", desc := "()J" } : Jvm.MethodName)).before a0 Z = true := hw _ (List.mem_of_getElem? (i := 37) rfl)
theorem wd_38 {Z : State} {a0 : Array Value} (hw : ∀ d ∈ tables_1, d.before a0 Z = true) : (Jvm.Cond.declares ({ cls := "com/example/invariant/invariant/check/BucketQueue", name := "lowest", desc := "()J" } : Jvm.MethodName)).before a0 Z = true := hw _ (List.mem_of_getElem? (i := 38) rfl)
theorem wd_39 {Z : State} {a0 : Array Value} (hw : ∀ d ∈ tables_1, d.before a0 Z = true) : (Jvm.Cond.instanceMethod ({ cls := "com/example/invariant/invariant/check/BucketQueue", name := "lowest", desc := "()J" } : Jvm.MethodName)).before a0 Z = true := hw _ (List.mem_of_getElem? (i := 39) rfl)
theorem wd_40 {Z : State} {a0 : Array Value} (hw : ∀ d ∈ tables_1, d.before a0 Z = true) : (Jvm.Cond.selects "com/example/invariant/invariant/check/BucketQueue" ({ cls := "com/example/invariant/invariant/check/BucketQueue", name := "lowest", desc := "()J" } : Jvm.MethodName) ({ cls := "com/example/invariant/invariant/check/BucketQueue", name := "lowest", desc := "()J" } : Jvm.MethodName)).before a0 Z = true := hw _ (List.mem_of_getElem? (i := 40) rfl)
theorem wd_41 {Z : State} {a0 : Array Value} (hw : ∀ d ∈ tables_1, d.before a0 Z = true) : (Jvm.Cond.code ({ cls := "com/example/invariant/invariant/check/BucketQueue", name := "lowest", desc := "()J" } : Jvm.MethodName) prog_51_method_5_code (1 : Nat) (Option.some Jvm.ClassFile.FieldType.long)).before a0 Z = true := hw _ (List.mem_of_getElem? (i := 41) rfl)
theorem wd_42 {Z : State} {a0 : Array Value} (hw : ∀ d ∈ tables_1, d.before a0 Z = true) : (Jvm.Cond.methodLink "com/example/invariant/invariant/check/BucketQueuePopPinLaw" (29 : Nat) ({ cls := "java/lang/Math", name := "min", desc := "(JJ)J" } : Jvm.MethodName)).before a0 Z = true := hw _ (List.mem_of_getElem? (i := 42) rfl)
theorem wd_43 {Z : State} {a0 : Array Value} (hw : ∀ d ∈ tables_1, d.before a0 Z = true) : (Jvm.Cond.static ({ cls := "java/lang/Math", name := "min", desc := "(JJ)J" } : Jvm.MethodName)).before a0 Z = true := hw _ (List.mem_of_getElem? (i := 43) rfl)
theorem wd_44 {Z : State} {a0 : Array Value} (hw : ∀ d ∈ tables_1, d.before a0 Z = true) : (Jvm.Cond.initialized "java/lang/Math").before a0 Z = true := hw _ (List.mem_of_getElem? (i := 44) rfl)
theorem wd_45 {Z : State} {a0 : Array Value} (hw : ∀ d ∈ tables_1, d.before a0 Z = true) : (Jvm.Cond.code ({ cls := "java/lang/Math", name := "min", desc := "(JJ)J" } : Jvm.MethodName) jdk_29_method_70_code (4 : Nat) (Option.some Jvm.ClassFile.FieldType.long)).before a0 Z = true := hw _ (List.mem_of_getElem? (i := 45) rfl)
theorem pd_0 : parseMethodDescriptor "()Z" = some ⟨[], some .boolean⟩ := by decide +kernel
theorem pd_1 : parseMethodDescriptor "(IJ)V" = some ⟨[.int, .long], none⟩ := by decide +kernel
theorem pd_2 : parseMethodDescriptor "()I" = some ⟨[], some .int⟩ := by decide +kernel
theorem pd_3 : parseMethodDescriptor "()J" = some ⟨[], some .long⟩ := by decide +kernel
theorem pd_4 : parseMethodDescriptor "(I)V" = some ⟨[.int], none⟩ := by decide +kernel
theorem pd_5 : parseMethodDescriptor "(JJ)J" = some ⟨[.long, .long], some .long⟩ := by decide +kernel
theorem dc_jdk_29_method_70_code_0 : decode jdk_29_method_70_code 0 = .ok (.lload_n 0, 1) := by decide +kernel
theorem dc_jdk_29_method_70_code_1 : decode jdk_29_method_70_code 1 = .ok (.lload_n 2, 1) := by decide +kernel
theorem dc_jdk_29_method_70_code_2 : decode jdk_29_method_70_code 2 = .ok (.lcmp, 1) := by decide +kernel
theorem dc_jdk_29_method_70_code_3 : decode jdk_29_method_70_code 3 = .ok (.ifCond .gt 7, 3) := by decide +kernel
theorem dc_jdk_29_method_70_code_6 : decode jdk_29_method_70_code 6 = .ok (.lload_n 0, 1) := by decide +kernel
theorem dc_jdk_29_method_70_code_7 : decode jdk_29_method_70_code 7 = .ok (.goto 4, 3) := by decide +kernel
theorem dc_jdk_29_method_70_code_10 : decode jdk_29_method_70_code 10 = .ok (.lload_n 2, 1) := by decide +kernel
theorem dc_jdk_29_method_70_code_11 : decode jdk_29_method_70_code 11 = .ok (.lreturn, 1) := by decide +kernel
theorem dc_prog_51_method_1_code_0 : decode prog_51_method_1_code 0 = .ok (.aload_n 0, 1) := by decide +kernel
theorem dc_prog_51_method_1_code_1 : decode prog_51_method_1_code 1 = .ok (.invokespecial 1, 3) := by decide +kernel
theorem dc_prog_51_method_1_code_4 : decode prog_51_method_1_code 4 = .ok (.aload_n 0, 1) := by decide +kernel
theorem dc_prog_51_method_1_code_5 : decode prog_51_method_1_code 5 = .ok (.iload_n 1, 1) := by decide +kernel
theorem dc_prog_51_method_1_code_6 : decode prog_51_method_1_code 6 = .ok (.anewarray 7, 3) := by decide +kernel
theorem dc_prog_51_method_1_code_9 : decode prog_51_method_1_code 9 = .ok (.putfield 9, 3) := by decide +kernel
theorem dc_prog_51_method_1_code_12 : decode prog_51_method_1_code 12 = .ok (.aload_n 0, 1) := by decide +kernel
theorem dc_prog_51_method_1_code_13 : decode prog_51_method_1_code 13 = .ok (.iload_n 1, 1) := by decide +kernel
theorem dc_prog_51_method_1_code_14 : decode prog_51_method_1_code 14 = .ok (.newarray .int, 2) := by decide +kernel
theorem dc_prog_51_method_1_code_16 : decode prog_51_method_1_code 16 = .ok (.putfield 15, 3) := by decide +kernel
theorem dc_prog_51_method_1_code_19 : decode prog_51_method_1_code 19 = .ok (.iconst 0, 1) := by decide +kernel
theorem dc_prog_51_method_1_code_20 : decode prog_51_method_1_code 20 = .ok (.istore_n 2, 1) := by decide +kernel
theorem dc_prog_51_method_1_code_21 : decode prog_51_method_1_code 21 = .ok (.iload_n 2, 1) := by decide +kernel
theorem dc_prog_51_method_1_code_22 : decode prog_51_method_1_code 22 = .ok (.iload_n 1, 1) := by decide +kernel
theorem dc_prog_51_method_1_code_23 : decode prog_51_method_1_code 23 = .ok (.if_icmp .ge 19, 3) := by decide +kernel
theorem dc_prog_51_method_1_code_26 : decode prog_51_method_1_code 26 = .ok (.aload_n 0, 1) := by decide +kernel
theorem dc_prog_51_method_1_code_27 : decode prog_51_method_1_code 27 = .ok (.getfield 9, 3) := by decide +kernel
theorem dc_prog_51_method_1_code_30 : decode prog_51_method_1_code 30 = .ok (.iload_n 2, 1) := by decide +kernel
theorem dc_prog_51_method_1_code_31 : decode prog_51_method_1_code 31 = .ok (.bipush 16, 2) := by decide +kernel
theorem dc_prog_51_method_1_code_33 : decode prog_51_method_1_code 33 = .ok (.newarray .int, 2) := by decide +kernel
theorem dc_prog_51_method_1_code_35 : decode prog_51_method_1_code 35 = .ok (.aastore, 1) := by decide +kernel
theorem dc_prog_51_method_1_code_36 : decode prog_51_method_1_code 36 = .ok (.iinc 2 1, 3) := by decide +kernel
theorem dc_prog_51_method_1_code_39 : decode prog_51_method_1_code 39 = .ok (.goto (-18), 3) := by decide +kernel
theorem dc_prog_51_method_1_code_42 : decode prog_51_method_1_code 42 = .ok (.return_, 1) := by decide +kernel
theorem dc_prog_51_method_2_code_0 : decode prog_51_method_2_code 0 = .ok (.aload_n 0, 1) := by decide +kernel
theorem dc_prog_51_method_2_code_1 : decode prog_51_method_2_code 1 = .ok (.getfield 18, 3) := by decide +kernel
theorem dc_prog_51_method_2_code_4 : decode prog_51_method_2_code 4 = .ok (.lconst 0, 1) := by decide +kernel
theorem dc_prog_51_method_2_code_5 : decode prog_51_method_2_code 5 = .ok (.lcmp, 1) := by decide +kernel
theorem dc_prog_51_method_2_code_6 : decode prog_51_method_2_code 6 = .ok (.ifCond .ne 7, 3) := by decide +kernel
theorem dc_prog_51_method_2_code_9 : decode prog_51_method_2_code 9 = .ok (.iconst 1, 1) := by decide +kernel
theorem dc_prog_51_method_2_code_10 : decode prog_51_method_2_code 10 = .ok (.goto 4, 3) := by decide +kernel
theorem dc_prog_51_method_2_code_13 : decode prog_51_method_2_code 13 = .ok (.iconst 0, 1) := by decide +kernel
theorem dc_prog_51_method_2_code_14 : decode prog_51_method_2_code 14 = .ok (.ireturn, 1) := by decide +kernel
theorem dc_prog_51_method_3_code_0 : decode prog_51_method_3_code 0 = .ok (.lload_n 2, 1) := by decide +kernel
theorem dc_prog_51_method_3_code_1 : decode prog_51_method_3_code 1 = .ok (.aload_n 0, 1) := by decide +kernel
theorem dc_prog_51_method_3_code_2 : decode prog_51_method_3_code 2 = .ok (.getfield 9, 3) := by decide +kernel
theorem dc_prog_51_method_3_code_5 : decode prog_51_method_3_code 5 = .ok (.arraylength, 1) := by decide +kernel
theorem dc_prog_51_method_3_code_6 : decode prog_51_method_3_code 6 = .ok (.i2l, 1) := by decide +kernel
theorem dc_prog_51_method_3_code_7 : decode prog_51_method_3_code 7 = .ok (.lrem, 1) := by decide +kernel
theorem dc_prog_51_method_3_code_8 : decode prog_51_method_3_code 8 = .ok (.l2i, 1) := by decide +kernel
theorem dc_prog_51_method_3_code_9 : decode prog_51_method_3_code 9 = .ok (.istore 4, 2) := by decide +kernel
theorem dc_prog_51_method_3_code_11 : decode prog_51_method_3_code 11 = .ok (.aload_n 0, 1) := by decide +kernel
theorem dc_prog_51_method_3_code_12 : decode prog_51_method_3_code 12 = .ok (.getfield 15, 3) := by decide +kernel
theorem dc_prog_51_method_3_code_15 : decode prog_51_method_3_code 15 = .ok (.iload 4, 2) := by decide +kernel
theorem dc_prog_51_method_3_code_17 : decode prog_51_method_3_code 17 = .ok (.iaload, 1) := by decide +kernel
theorem dc_prog_51_method_3_code_18 : decode prog_51_method_3_code 18 = .ok (.aload_n 0, 1) := by decide +kernel
theorem dc_prog_51_method_3_code_19 : decode prog_51_method_3_code 19 = .ok (.getfield 9, 3) := by decide +kernel
theorem dc_prog_51_method_3_code_22 : decode prog_51_method_3_code 22 = .ok (.iload 4, 2) := by decide +kernel
theorem dc_prog_51_method_3_code_24 : decode prog_51_method_3_code 24 = .ok (.aaload, 1) := by decide +kernel
theorem dc_prog_51_method_3_code_25 : decode prog_51_method_3_code 25 = .ok (.arraylength, 1) := by decide +kernel
theorem dc_prog_51_method_3_code_26 : decode prog_51_method_3_code 26 = .ok (.if_icmp .ne 29, 3) := by decide +kernel
theorem dc_prog_51_method_3_code_55 : decode prog_51_method_3_code 55 = .ok (.aload_n 0, 1) := by decide +kernel
theorem dc_prog_51_method_3_code_56 : decode prog_51_method_3_code 56 = .ok (.getfield 9, 3) := by decide +kernel
theorem dc_prog_51_method_3_code_59 : decode prog_51_method_3_code 59 = .ok (.iload 4, 2) := by decide +kernel
theorem dc_prog_51_method_3_code_61 : decode prog_51_method_3_code 61 = .ok (.aaload, 1) := by decide +kernel
theorem dc_prog_51_method_3_code_62 : decode prog_51_method_3_code 62 = .ok (.aload_n 0, 1) := by decide +kernel
theorem dc_prog_51_method_3_code_63 : decode prog_51_method_3_code 63 = .ok (.getfield 15, 3) := by decide +kernel
theorem dc_prog_51_method_3_code_66 : decode prog_51_method_3_code 66 = .ok (.iload 4, 2) := by decide +kernel
theorem dc_prog_51_method_3_code_68 : decode prog_51_method_3_code 68 = .ok (.dup2, 1) := by decide +kernel
theorem dc_prog_51_method_3_code_69 : decode prog_51_method_3_code 69 = .ok (.iaload, 1) := by decide +kernel
theorem dc_prog_51_method_3_code_70 : decode prog_51_method_3_code 70 = .ok (.dup_x2, 1) := by decide +kernel
theorem dc_prog_51_method_3_code_71 : decode prog_51_method_3_code 71 = .ok (.iconst 1, 1) := by decide +kernel
theorem dc_prog_51_method_3_code_72 : decode prog_51_method_3_code 72 = .ok (.iadd, 1) := by decide +kernel
theorem dc_prog_51_method_3_code_73 : decode prog_51_method_3_code 73 = .ok (.iastore, 1) := by decide +kernel
theorem dc_prog_51_method_3_code_74 : decode prog_51_method_3_code 74 = .ok (.iload_n 1, 1) := by decide +kernel
theorem dc_prog_51_method_3_code_75 : decode prog_51_method_3_code 75 = .ok (.iastore, 1) := by decide +kernel
theorem dc_prog_51_method_3_code_76 : decode prog_51_method_3_code 76 = .ok (.aload_n 0, 1) := by decide +kernel
theorem dc_prog_51_method_3_code_77 : decode prog_51_method_3_code 77 = .ok (.dup, 1) := by decide +kernel
theorem dc_prog_51_method_3_code_78 : decode prog_51_method_3_code 78 = .ok (.getfield 18, 3) := by decide +kernel
theorem dc_prog_51_method_3_code_81 : decode prog_51_method_3_code 81 = .ok (.lconst 1, 1) := by decide +kernel
theorem dc_prog_51_method_3_code_82 : decode prog_51_method_3_code 82 = .ok (.ladd, 1) := by decide +kernel
theorem dc_prog_51_method_3_code_83 : decode prog_51_method_3_code 83 = .ok (.putfield 18, 3) := by decide +kernel
theorem dc_prog_51_method_3_code_86 : decode prog_51_method_3_code 86 = .ok (.return_, 1) := by decide +kernel
theorem dc_prog_51_method_4_code_0 : decode prog_51_method_4_code 0 = .ok (.aload_n 0, 1) := by decide +kernel
theorem dc_prog_51_method_4_code_1 : decode prog_51_method_4_code 1 = .ok (.getfield 15, 3) := by decide +kernel
theorem dc_prog_51_method_4_code_4 : decode prog_51_method_4_code 4 = .ok (.aload_n 0, 1) := by decide +kernel
theorem dc_prog_51_method_4_code_5 : decode prog_51_method_4_code 5 = .ok (.getfield 28, 3) := by decide +kernel
theorem dc_prog_51_method_4_code_8 : decode prog_51_method_4_code 8 = .ok (.aload_n 0, 1) := by decide +kernel
theorem dc_prog_51_method_4_code_9 : decode prog_51_method_4_code 9 = .ok (.getfield 9, 3) := by decide +kernel
theorem dc_prog_51_method_4_code_12 : decode prog_51_method_4_code 12 = .ok (.arraylength, 1) := by decide +kernel
theorem dc_prog_51_method_4_code_13 : decode prog_51_method_4_code 13 = .ok (.i2l, 1) := by decide +kernel
theorem dc_prog_51_method_4_code_14 : decode prog_51_method_4_code 14 = .ok (.lrem, 1) := by decide +kernel
theorem dc_prog_51_method_4_code_15 : decode prog_51_method_4_code 15 = .ok (.l2i, 1) := by decide +kernel
theorem dc_prog_51_method_4_code_16 : decode prog_51_method_4_code 16 = .ok (.iaload, 1) := by decide +kernel
theorem dc_prog_51_method_4_code_17 : decode prog_51_method_4_code 17 = .ok (.ifCond .ne 16, 3) := by decide +kernel
theorem dc_prog_51_method_4_code_20 : decode prog_51_method_4_code 20 = .ok (.aload_n 0, 1) := by decide +kernel
theorem dc_prog_51_method_4_code_21 : decode prog_51_method_4_code 21 = .ok (.dup, 1) := by decide +kernel
theorem dc_prog_51_method_4_code_22 : decode prog_51_method_4_code 22 = .ok (.getfield 28, 3) := by decide +kernel
theorem dc_prog_51_method_4_code_25 : decode prog_51_method_4_code 25 = .ok (.lconst 1, 1) := by decide +kernel
theorem dc_prog_51_method_4_code_26 : decode prog_51_method_4_code 26 = .ok (.ladd, 1) := by decide +kernel
theorem dc_prog_51_method_4_code_27 : decode prog_51_method_4_code 27 = .ok (.putfield 28, 3) := by decide +kernel
theorem dc_prog_51_method_4_code_30 : decode prog_51_method_4_code 30 = .ok (.goto (-30), 3) := by decide +kernel
theorem dc_prog_51_method_4_code_33 : decode prog_51_method_4_code 33 = .ok (.aload_n 0, 1) := by decide +kernel
theorem dc_prog_51_method_4_code_34 : decode prog_51_method_4_code 34 = .ok (.getfield 28, 3) := by decide +kernel
theorem dc_prog_51_method_4_code_37 : decode prog_51_method_4_code 37 = .ok (.aload_n 0, 1) := by decide +kernel
theorem dc_prog_51_method_4_code_38 : decode prog_51_method_4_code 38 = .ok (.getfield 9, 3) := by decide +kernel
theorem dc_prog_51_method_4_code_41 : decode prog_51_method_4_code 41 = .ok (.arraylength, 1) := by decide +kernel
theorem dc_prog_51_method_4_code_42 : decode prog_51_method_4_code 42 = .ok (.i2l, 1) := by decide +kernel
theorem dc_prog_51_method_4_code_43 : decode prog_51_method_4_code 43 = .ok (.lrem, 1) := by decide +kernel
theorem dc_prog_51_method_4_code_44 : decode prog_51_method_4_code 44 = .ok (.l2i, 1) := by decide +kernel
theorem dc_prog_51_method_4_code_45 : decode prog_51_method_4_code 45 = .ok (.istore_n 1, 1) := by decide +kernel
theorem dc_prog_51_method_4_code_46 : decode prog_51_method_4_code 46 = .ok (.aload_n 0, 1) := by decide +kernel
theorem dc_prog_51_method_4_code_47 : decode prog_51_method_4_code 47 = .ok (.dup, 1) := by decide +kernel
theorem dc_prog_51_method_4_code_48 : decode prog_51_method_4_code 48 = .ok (.getfield 18, 3) := by decide +kernel
theorem dc_prog_51_method_4_code_51 : decode prog_51_method_4_code 51 = .ok (.lconst 1, 1) := by decide +kernel
theorem dc_prog_51_method_4_code_52 : decode prog_51_method_4_code 52 = .ok (.lsub, 1) := by decide +kernel
theorem dc_prog_51_method_4_code_53 : decode prog_51_method_4_code 53 = .ok (.putfield 18, 3) := by decide +kernel
theorem dc_prog_51_method_4_code_56 : decode prog_51_method_4_code 56 = .ok (.aload_n 0, 1) := by decide +kernel
theorem dc_prog_51_method_4_code_57 : decode prog_51_method_4_code 57 = .ok (.getfield 9, 3) := by decide +kernel
theorem dc_prog_51_method_4_code_60 : decode prog_51_method_4_code 60 = .ok (.iload_n 1, 1) := by decide +kernel
theorem dc_prog_51_method_4_code_61 : decode prog_51_method_4_code 61 = .ok (.aaload, 1) := by decide +kernel
theorem dc_prog_51_method_4_code_62 : decode prog_51_method_4_code 62 = .ok (.aload_n 0, 1) := by decide +kernel
theorem dc_prog_51_method_4_code_63 : decode prog_51_method_4_code 63 = .ok (.getfield 15, 3) := by decide +kernel
theorem dc_prog_51_method_4_code_66 : decode prog_51_method_4_code 66 = .ok (.iload_n 1, 1) := by decide +kernel
theorem dc_prog_51_method_4_code_67 : decode prog_51_method_4_code 67 = .ok (.dup2, 1) := by decide +kernel
theorem dc_prog_51_method_4_code_68 : decode prog_51_method_4_code 68 = .ok (.iaload, 1) := by decide +kernel
theorem dc_prog_51_method_4_code_69 : decode prog_51_method_4_code 69 = .ok (.iconst 1, 1) := by decide +kernel
theorem dc_prog_51_method_4_code_70 : decode prog_51_method_4_code 70 = .ok (.isub, 1) := by decide +kernel
theorem dc_prog_51_method_4_code_71 : decode prog_51_method_4_code 71 = .ok (.dup_x2, 1) := by decide +kernel
theorem dc_prog_51_method_4_code_72 : decode prog_51_method_4_code 72 = .ok (.iastore, 1) := by decide +kernel
theorem dc_prog_51_method_4_code_73 : decode prog_51_method_4_code 73 = .ok (.iaload, 1) := by decide +kernel
theorem dc_prog_51_method_4_code_74 : decode prog_51_method_4_code 74 = .ok (.ireturn, 1) := by decide +kernel
theorem dc_prog_51_method_5_code_0 : decode prog_51_method_5_code 0 = .ok (.aload_n 0, 1) := by decide +kernel
theorem dc_prog_51_method_5_code_1 : decode prog_51_method_5_code 1 = .ok (.getfield 28, 3) := by decide +kernel
theorem dc_prog_51_method_5_code_4 : decode prog_51_method_5_code 4 = .ok (.lreturn, 1) := by decide +kernel
theorem own_eqI {args : Array Value} {first s : State} {o : Option Outcome} {idx : List Nat} {t : Term} {k : Int32} (h : (Jvm.Cond.eq t (.int k)).value args first o s idx = some true) : t.eval args first o idx s = some (.int k) := by
  simp only [Cond.value, Term.eval] at h
  cases ht : t.eval args first o idx s with
  | none => simp [ht] at h
  | some x => cases x <;> simp [ht] at h ⊢; exact h
theorem own_ne {i k : Int32} {d : Int} (h : ¬ i = k) (hk : k.toInt = d) : i.toInt ≠ d := fun q => h (Int32.toInt_inj.mp (q.trans hk.symm))
theorem own_mask (x : Int32) : 0 ≤ (x &&& 2147483647).toInt := (c_and x 2147483647 (by decide)).1
theorem own_rem (x k : Int32) (d : Int) (hk : k.toInt = d) (hd : 0 < d) : 0 ≤ ((x &&& 2147483647) % k).toInt ∧ ((x &&& 2147483647) % k).toInt < d := by
  have h := (c_irem (x &&& 2147483647) k d hk).1 (own_mask x)
  rw [h]
  exact ⟨Int.emod_nonneg _ (by omega), Int.emod_lt_of_pos _ hd⟩
def upd (f : Nat → List Int32) (i : Nat) (xs : List Int32) : Nat → List Int32 := fun j => if j = i then xs else f j
theorem upd_same (f : Nat → List Int32) (i : Nat) (xs : List Int32) : upd f i xs i = xs := if_pos rfl
theorem upd_ne (f : Nat → List Int32) {i j : Nat} (xs : List Int32) (h : j ≠ i) : upd f i xs j = f j := if_neg h
def QAt (Z : State) (h : Heap) (n0 : Nat) (b : Addr) (n : Nat) (f : Nat → List Int32) (lo sz : Int64) : Prop :=
  ∃ (bb cc : Addr) (kb kc : ClassId) (A : Nat → Addr) (kk : Nat → ClassId) (vb vc : List Value) (E : Nat → List Value),
    Exa Z h b "com/example/invariant/invariant/check/BucketQueue" ∧ Fld Z h b "com/example/invariant/invariant/check/BucketQueue" "buckets" "[[I" (.ref bb) ∧ Fld Z h b "com/example/invariant/invariant/check/BucketQueue" "counts" "[I" (.ref cc) ∧ Fld Z h b "com/example/invariant/invariant/check/BucketQueue" "lowest" "J" (.long lo) ∧ Fld Z h b "com/example/invariant/invariant/check/BucketQueue" "size" "J" (.long sz) ∧
    Ar Z h bb (.array .int) kb vb ∧ vb.length = n ∧ (∀ i, i < n → vb[i]? = some (.ref (A i))) ∧
    Ar Z h cc .int kc vc ∧ vc.length = n ∧ (∀ i, i < n → vc[i]? = some (.int (Int32.ofNat (f i).length))) ∧
    (∀ i, i < n → Ar Z h (A i) .int (kk i) (E i)) ∧ (∀ i, i < n → (E i).length = 16) ∧ (∀ i, i < n → ∀ (j : Nat) (x : Int32), (f i)[j]? = some x → (E i)[j]? = some (.int x)) ∧
    (bb ≠ b ∧ cc ≠ b ∧ cc ≠ bb ∧ (∀ i, i < n → A i ≠ b ∧ A i ≠ bb ∧ A i ≠ cc) ∧ (∀ i j, i < n → j < n → i ≠ j → A i ≠ A j)) ∧ (n0 ≤ b ∧ n0 ≤ bb ∧ n0 ≤ cc ∧ ∀ i, i < n → n0 ≤ A i)
theorem own_get_set {vs : List Value} {i j : Nat} {v : Value} (hi : i < vs.length) : (vs.set i v)[j]? = if j = i then some v else vs[j]? := by
  by_cases e : j = i
  · subst e; rw [if_pos rfl, List.getElem?_set_self hi]
  · rw [if_neg e, List.getElem?_set_ne (fun q => e q.symm)]
theorem own_idx (cost : Int64) (n : Nat) (h0 : 0 ≤ cost.toInt) (hn : 0 < n) (hn8 : n ≤ 8) : ¬ (cost % n.toInt32.toInt64).toInt32 < 0 ∧ (cost % n.toInt32.toInt64).toInt32.toNatClampNeg = cost.toInt.toNat % n ∧ n.toInt32.toInt64 ≠ 0 := by
  have hz : n.toInt32.toInt = n := len_toInt (by omega)
  have hz' : n.toInt32.toInt64.toInt = n := by rw [Int32.toInt_toInt64, hz]
  have hm : (cost % n.toInt32.toInt64).toInt = cost.toInt % n := by rw [Int64.toInt_mod, hz', Int.tmod_eq_emod_of_nonneg h0]
  have hb : 0 ≤ cost.toInt % n ∧ cost.toInt % n < n := ⟨Int.emod_nonneg _ (by omega), Int.emod_lt_of_pos _ (by omega)⟩
  have h32 : (cost % n.toInt32.toInt64).toInt32.toInt = cost.toInt % n := by
    have := c_l2i (cost % n.toInt32.toInt64)
    have r := rng32 (cost % n.toInt32.toInt64).toInt32
    rw [hm] at this
    omega
  refine ⟨?_, ?_, ?_⟩
  · rw [Int32.lt_iff_toInt_lt, h32]
    have : (0 : Int32).toInt = 0 := by decide
    omega
  · rw [Int32.toNatClampNeg, h32, Int.toNat_emod h0 (by omega), Int.toNat_natCast]
  · intro q
    rw [q] at hz'
    have : (0 : Int64).toInt = 0 := by decide
    omega
theorem own_cnt {k : Nat} (hk : k < 2000) : (Int32.ofNat k).toInt = k := len_toInt (by omega)
theorem own_cnt_nat {k : Nat} (hk : k < 1000) : ¬ Int32.ofNat k < 0 ∧ (Int32.ofNat k).toNatClampNeg = k := by
  have h := own_cnt (k := k) (by omega)
  refine ⟨?_, ?_⟩
  · rw [Int32.lt_iff_toInt_lt, h]
    have : (0 : Int32).toInt = 0 := by decide
    omega
  · rw [Int32.toNatClampNeg, h]
    omega
theorem own_cnt_add {k : Nat} (hk : k < 1000) : Int32.ofNat k + 1 = Int32.ofNat (k + 1) := by
  apply Int32.toInt_inj.mp
  have h1 := own_cnt (k := k) (by omega)
  have h2 := own_cnt (k := k + 1) (by omega)
  have h3 := c_iadd (Int32.ofNat k) 1
  have r := rng32 (Int32.ofNat k + 1)
  have e : (1 : Int32).toInt = 1 := by decide
  rw [h1, e] at h3
  omega
theorem own_cnt_sub {k : Nat} (hk : k < 1000) : Int32.ofNat (k + 1) - 1 = Int32.ofNat k := by
  apply Int32.toInt_inj.mp
  have h1 := own_cnt (k := k) (by omega)
  have h2 := own_cnt (k := k + 1) (by omega)
  have h3 := c_isub (Int32.ofNat (k + 1)) 1
  have r := rng32 (Int32.ofNat (k + 1) - 1)
  have e : (1 : Int32).toInt = 1 := by decide
  rw [h2, e] at h3
  omega
theorem q_len {f : Nat → List Int32} {n i m : Nat} {vc : List Value} (lC : vc.length = n) (gC : ∀ i, i < n → vc[i]? = some (.int (Int32.ofNat (f i).length))) (hi : i < n) {xs : List Int32} (hm : xs.length = m) : ∀ j, j < n → (vc.set i (.int (Int32.ofNat m)))[j]? = some (.int (Int32.ofNat (upd f i xs j).length)) := fun j hj => by
  rw [own_get_set (by omega)]
  by_cases e : j = i
  · subst e; rw [if_pos rfl, upd_same, hm]
  · rw [if_neg e, upd_ne f xs e]; exact gC j hj
def updE (E : Nat → List Value) (i : Nat) (vs : List Value) : Nat → List Value := fun j => if j = i then vs else E j
theorem q_elt {f : Nat → List Int32} {n i : Nat} {E : Nat → List Value} (lE : ∀ i, i < n → (E i).length = 16) (gE : ∀ i, i < n → ∀ (j : Nat) (x : Int32), (f i)[j]? = some x → (E i)[j]? = some (.int x)) (hi : i < n) (x : Int32) (hl : (f i).length < 16) : ∀ j, j < n → ∀ (q : Nat) (y : Int32), (upd f i (f i ++ [x]) j)[q]? = some y → (updE E i ((E i).set (f i).length (.int x)) j)[q]? = some (.int y) := fun j hj q y hq => by
  by_cases e : j = i
  · subst e
    rw [upd_same] at hq
    rw [show updE E j ((E j).set (f j).length (.int x)) j = (E j).set (f j).length (.int x) from if_pos rfl, own_get_set (by rw [lE j hj]; exact hl)]
    by_cases e2 : q = (f j).length
    · subst e2
      rw [if_pos rfl]
      rw [List.getElem?_append_right (Nat.le_refl _), Nat.sub_self] at hq
      simp at hq
      rw [hq]
    · rw [if_neg e2]
      have hq2 : q < (f j).length := by
        have := (List.getElem?_eq_some_iff.mp hq).1
        simp at this
        omega
      rw [List.getElem?_append_left hq2] at hq
      exact gE j hj q y hq
  · rw [upd_ne f _ e] at hq
    rw [show updE E i ((E i).set (f i).length (.int x)) j = E j from if_neg e]
    exact gE j hj q y hq
theorem q_pop {f : Nat → List Int32} {n i : Nat} {E : Nat → List Value} (gE : ∀ i, i < n → ∀ (j : Nat) (x : Int32), (f i)[j]? = some x → (E i)[j]? = some (.int x)) {xs : List Int32} {x : Int32} (hx : f i = xs ++ [x]) : ∀ j, j < n → ∀ (q : Nat) (y : Int32), (upd f i xs j)[q]? = some y → (E j)[q]? = some (.int y) := fun j hj q y hq => by
  by_cases e : j = i
  · subst e
    rw [upd_same] at hq
    refine gE j hj q y ?_
    rw [hx, List.getElem?_append_left (List.getElem?_eq_some_iff.mp hq).1]
    exact hq
  · rw [upd_ne f _ e] at hq
    exact gE j hj q y hq
set_option maxRecDepth 65536 in
set_option maxHeartbeats 4000000 in
theorem push_met (l : Launch) (Z : State) (a0 : Array Value) (hw : ∀ d ∈ tables_1, d.before a0 Z = true) (n0 : Nat) (h : Heap) (O : Old Z n0 h) (b : Addr) (n : Nat) (hn : 0 < n) (hn8 : n ≤ 8) (f : Nat → List Int32) (lo sz : Int64) (hQ : QAt Z h n0 b n f lo sz) (x : Int32) (cost : Int64) (i : Nat) (hi : i < n) (hc : 0 ≤ cost.toInt) (hci : cost.toInt.toNat % n = i) (hlen : (f i).length < 16) :
    Met l Z n0 (⟨"com/example/invariant/invariant/check/BucketQueue", "push", "(IJ)V"⟩ : MethodName) prog_51_method_3_code 5 none [] ({ frames := 0, cells := 0, slots := 0, locals := 0 } : Room) #[(.ref b), (.int x), (.long cost)] h (fun v h' => v = none ∧ QAt Z h' n0 b n (upd f i (f i ++ [x])) lo (sz + 1)) := by
  refine met_of (Ls := #[(.val (.ref b)), (.val (.int x)), (.val (.long cost)), .second, .unset]) (by decide +kernel) (fun m => by first | (simp [entryFrame, mkF, argsToLocals, Value.category]; done) | rfl) O ?_
  intro p e s m below meth cd C
  obtain ⟨bb, cc, kb, kc, A, kk, vb, vc, E, eQ, fB, fC, fL, fS, aB, lB, gB, aC, lC, gC, aE, lE, gE, ⟨n1, n2, n3, n4, n5⟩, m1, m2, m3, m4⟩ := hQ
  obtain ⟨ix1, ix2, ix3⟩ := own_idx cost n hc hn hn8
  rw [hci] at ix2
  refine go_lloadN C (pc' := 1) dc_prog_51_method_3_code_0 rfl rfl ?_
  refine go_aloadN C (pc' := 2) dc_prog_51_method_3_code_1 rfl rfl rfl ?_
  refine go_getF C (pc' := 5) (host := "") (Or.inl (wd_12 hw)) Via.refl fB dc_prog_51_method_3_code_2 rfl ?_
  refine go_alen C (pc' := 6) aB (z := n.toInt32) (by rw [lB]) dc_prog_51_method_3_code_5 rfl ?_
  refine go_i2l C (pc' := 7) dc_prog_51_method_3_code_6 rfl ?_
  refine go_lrem C (pc' := 8) dc_prog_51_method_3_code_7 ix3 rfl ?_
  refine go_l2i C (pc' := 9) dc_prog_51_method_3_code_8 rfl ?_
  generalize ((cost % (n.toInt32).toInt64)).toInt32 = ii at ix1 ix2 ⊢
  obtain ⟨cn1, cn2⟩ := own_cnt_nat (k := (f i).length) (by omega)
  refine go_istore C (pc' := 11) dc_prog_51_method_3_code_9 (Ls' := #[(.val (.ref b)), (.val (.int x)), (.val (.long cost)), .second, (.val (.int ii))]) rfl rfl ?_
  refine go_aloadN C (pc' := 12) dc_prog_51_method_3_code_11 rfl rfl rfl ?_
  refine go_getF C (pc' := 15) (host := "") (Or.inl (wd_15 hw)) Via.refl fC dc_prog_51_method_3_code_12 rfl ?_
  refine go_iload C (pc' := 17) dc_prog_51_method_3_code_15 rfl rfl ?_
  refine go_iaget C (pc' := 18) aC ix1 (i := i) ix2 (gC i hi) dc_prog_51_method_3_code_17 rfl ?_
  refine go_aloadN C (pc' := 19) dc_prog_51_method_3_code_18 rfl rfl rfl ?_
  refine go_getF C (pc' := 22) (host := "") (Or.inl (wd_12 hw)) Via.refl fB dc_prog_51_method_3_code_19 rfl ?_
  refine go_iload C (pc' := 24) dc_prog_51_method_3_code_22 rfl rfl ?_
  refine go_raget C (pc' := 25) aB rfl ix1 (i := i) ix2 (gB i hi) dc_prog_51_method_3_code_24 rfl ?_
  refine go_alen C (pc' := 26) (aE i hi) (z := (16 : Int32)) (by rw [lE i hi]; decide) dc_prog_51_method_3_code_25 rfl ?_
  refine go_icmpYes C (pc' := 55) dc_prog_51_method_3_code_26 (feq (fun q => by have q1 := own_cnt (k := (f i).length) (by omega); rw [q] at q1; have q2 : (16 : Int32).toInt = 16 := (by decide); omega)).2 (by decide) (by decide) ?_
  refine go_aloadN C (pc' := 56) dc_prog_51_method_3_code_55 rfl rfl rfl ?_
  refine go_getF C (pc' := 59) (host := "") (Or.inl (wd_12 hw)) Via.refl fB dc_prog_51_method_3_code_56 rfl ?_
  refine go_iload C (pc' := 61) dc_prog_51_method_3_code_59 rfl rfl ?_
  refine go_raget C (pc' := 62) aB rfl ix1 (i := i) ix2 (gB i hi) dc_prog_51_method_3_code_61 rfl ?_
  refine go_aloadN C (pc' := 63) dc_prog_51_method_3_code_62 rfl rfl rfl ?_
  refine go_getF C (pc' := 66) (host := "") (Or.inl (wd_15 hw)) Via.refl fC dc_prog_51_method_3_code_63 rfl ?_
  refine go_iload C (pc' := 68) dc_prog_51_method_3_code_66 rfl rfl ?_
  refine go_dup2 C (pc' := 69) dc_prog_51_method_3_code_68 rfl rfl rfl ?_
  refine go_iaget C (pc' := 70) aC ix1 (i := i) ix2 (gC i hi) dc_prog_51_method_3_code_69 rfl ?_
  refine go_dupX2 C (pc' := 71) dc_prog_51_method_3_code_70 rfl rfl rfl rfl ?_
  refine go_iconst C (pc' := 72) dc_prog_51_method_3_code_71 (z := (1 : Int32)) (by decide) rfl ?_
  refine go_iadd C (pc' := 73) dc_prog_51_method_3_code_72 rfl ?_
  refine go_st (st' := [(.int (Int32.ofNat ((f i).length + 1))), (.int ii), (.ref cc), (.int (Int32.ofNat (f i).length)), (.ref (A i))]) (by rw [show Int32.ofNat (f i).length + (1 : Int32) = Int32.ofNat ((f i).length + 1) from own_cnt_add (by omega)]) ?_
  refine go_iaset C (pc' := 74) aC ix1 (i := i) ix2 (by rw [lC]; exact hi) (vs' := (vc.set i (.int (Int32.ofNat ((f i).length + 1))))) rfl dc_prog_51_method_3_code_73 rfl m3 ?_
  intro h1 W1 A1
  refine go_iloadN C (pc' := 75) dc_prog_51_method_3_code_74 rfl rfl ?_
  refine go_iaset C (pc' := 76) ((aE i hi).other W1 (n4 i hi).2.2) cn1 (i := (f i).length) cn2 (by rw [lE i hi]; exact hlen) (vs' := ((E i).set (f i).length (.int x))) rfl dc_prog_51_method_3_code_75 rfl (m4 i hi) ?_
  intro h2 W2 A2
  refine go_aloadN C (pc' := 77) dc_prog_51_method_3_code_76 rfl rfl rfl ?_
  refine go_dup C (pc' := 78) dc_prog_51_method_3_code_77 rfl rfl ?_
  refine go_getF C (pc' := 81) (host := "") (Or.inl (wd_23 hw)) Via.refl ((fS.other W1 (Or.inl (Ne.symm n2))).other W2 (Or.inl (Ne.symm (n4 i hi).1))) dc_prog_51_method_3_code_78 rfl ?_
  refine go_lconst C (pc' := 82) dc_prog_51_method_3_code_81 (z := (1 : Int64)) (by decide) rfl ?_
  refine go_ladd C (pc' := 83) dc_prog_51_method_3_code_82 rfl ?_
  refine go_putF C (pc' := 86) (host := "") (Or.inl (wd_23 hw)) Via.refl ((fS.other W1 (Or.inl (Ne.symm n2))).other W2 (Or.inl (Ne.symm (n4 i hi).1))) ((eQ.wr W1).wr W2) (Or.inl (wd_24 hw)) (wd_2 hw) (ty := .long) (by decide) rfl rfl dc_prog_51_method_3_code_83 rfl m1 ?_
  intro h3 W3 F3
  have gE' := q_elt lE gE hi x hlen
  have aE' : ∀ j, j < n → Ar Z _ (A j) .int (kk j) (updE E i ((E i).set (f i).length (.int x)) j) := fun j hj => by
    by_cases e : j = i
    · subst e; rw [show updE E j ((E j).set (f j).length (.int x)) j = (E j).set (f j).length (.int x) from if_pos rfl]; exact (A2.other W3 (n4 j hi).1)
    · rw [show updE E i ((E i).set (f i).length (.int x)) j = E j from if_neg e]; exact ((((aE j hj).other W1 (n4 j hj).2.2).other W2 (n5 j i hj hi e)).other W3 (n4 j hj).1)
  have lE' : ∀ j, j < n → (updE E i ((E i).set (f i).length (.int x)) j).length = 16 := fun j hj => by
    by_cases e : j = i
    · subst e; rw [show updE E j ((E j).set (f j).length (.int x)) j = (E j).set (f j).length (.int x) from if_pos rfl, List.length_set]; exact lE j hj
    · rw [show updE E i ((E i).set (f i).length (.int x)) j = E j from if_neg e]; exact lE j hj
  exact go_ret0 C dc_prog_51_method_3_code_86 (by decide) (by decide) ⟨rfl, ⟨bb, cc, kb, kc, A, kk, vb, _, _, (((eQ.wr W1).wr W2).wr W3), (((fB.other W1 (Or.inl (Ne.symm n2))).other W2 (Or.inl (Ne.symm (n4 i hi).1))).other W3 (Or.inr (slot_ne (a0 := a0) (Or.inr (wd_13 hw)) (Or.inl (wd_24 hw)) (by decide) (t := (.array (.array .int))) (t' := .long) (by decide) (by decide)))), (((fC.other W1 (Or.inl (Ne.symm n2))).other W2 (Or.inl (Ne.symm (n4 i hi).1))).other W3 (Or.inr (slot_ne (a0 := a0) (Or.inr (wd_16 hw)) (Or.inl (wd_24 hw)) (by decide) (t := (.array .int)) (t' := .long) (by decide) (by decide)))), (((fL.other W1 (Or.inl (Ne.symm n2))).other W2 (Or.inl (Ne.symm (n4 i hi).1))).other W3 (Or.inr (slot_ne (a0 := a0) (Or.inl (wd_36 hw)) (Or.inl (wd_24 hw)) (by decide) (t := .long) (t' := .long) (by decide) (by decide)))), F3, (((aB.other W1 (Ne.symm n3)).other W2 (Ne.symm (n4 i hi).2.1)).other W3 n1), lB, gB, ((A1.other W2 (Ne.symm (n4 i hi).2.2)).other W3 n2), (by rw [List.length_set]; exact lC), q_len lC gC hi (by rw [List.length_append]; rfl), aE', lE', gE', ⟨n1, n2, n3, n4, n5⟩, m1, m2, m3, m4⟩⟩
theorem q_exa {Z : State} {h : Heap} {n0 : Nat} {b : Addr} {n : Nat} {f : Nat → List Int32} {lo sz : Int64} (hQ : QAt Z h n0 b n f lo sz) : Exa Z h b "com/example/invariant/invariant/check/BucketQueue" := by
  obtain ⟨bb, cc, kb, kc, A, kk, vb, vc, E, eQ, r⟩ := hQ
  exact eQ
theorem own_inc {lo : Int64} (h : lo.toInt < 1000) (h0 : 0 ≤ lo.toInt) : (lo + 1).toInt = lo.toInt + 1 := by
  have h3 := c_ladd lo 1
  have r := rng64 (lo + 1)
  have e : (1 : Int64).toInt = 1 := by decide
  rw [e] at h3
  omega
set_option maxRecDepth 65536 in
set_option maxHeartbeats 4000000 in
theorem pop_met (l : Launch) (Z : State) (a0 : Array Value) (hw : ∀ d ∈ tables_1, d.before a0 Z = true) (n0 : Nat) (h : Heap) (O : Old Z n0 h) (b : Addr) (n : Nat) (hn : 0 < n) (hn8 : n ≤ 8) (f : Nat → List Int32) (lo sz : Int64) (hQ : QAt Z h n0 b n f lo sz) (lo' : Int64) (hlo : 0 ≤ lo.toInt) (hle : lo.toInt ≤ lo'.toInt) (hb : lo'.toInt < 1000) (hemp : ∀ t : Nat, lo.toInt ≤ t → (t : Int) < lo'.toInt → f (t % n) = []) (i : Nat) (hi : i < n) (hix : lo'.toInt.toNat % n = i) (xs : List Int32) (x : Int32) (hx : f i = xs ++ [x]) :
    Met l Z n0 (⟨"com/example/invariant/invariant/check/BucketQueue", "pop", "()I"⟩ : MethodName) prog_51_method_4_code 2 (some .int) [] ({ frames := 0, cells := 0, slots := 0, locals := 0 } : Room) #[(.ref b)] h (fun v h' => v = some (.int x) ∧ QAt Z h' n0 b n (upd f i xs) lo' (sz - 1)) := by
  refine met_of (Ls := #[(.val (.ref b)), .unset]) (by decide +kernel) (fun m => by first | (simp [entryFrame, mkF, argsToLocals, Value.category]; done) | rfl) O ?_
  intro p e s m below meth cd C
  suffices H : ∀ (k : Nat) (lo : Int64) (h : Heap), lo.toInt + k = lo'.toInt → 0 ≤ lo.toInt → (∀ t : Nat, lo.toInt ≤ t → (t : Int) < lo'.toInt → f (t % n) = []) → QAt Z h n0 b n f lo sz → Go p l e ({ frames := 0, cells := 0, slots := 0, locals := 0 } : Room) s m #[.ref b] below meth cd Z n0 (fun v h' => v = some (.int x) ∧ QAt Z h' n0 b n (upd f i xs) lo' (sz - 1)) 0 0 h 0 0 (mkF m 0 #[.val (.ref b), .unset] []) from H (lo'.toInt - lo.toInt).toNat lo h (by omega) hlo hemp hQ
  clear hQ hemp hle hlo
  intro k
  induction k with
  | zero =>
    intro lo h hk h0 hemp hQ
    obtain ⟨bb, cc, kb, kc, A, kk, vb, vc, E, eQ, fB, fC, fL, fS, aB, lB, gB, aC, lC, gC, aE, lE, gE, ⟨n1, n2, n3, n4, n5⟩, m1, m2, m3, m4⟩ := hQ
    obtain rfl : lo = lo' := Int64.toInt_inj.mp (by omega)
    obtain ⟨ix1, ix2, ix3⟩ := own_idx lo n h0 hn hn8
    rw [hix] at ix2
    have hl : (f i).length = xs.length + 1 := by rw [hx]; simp
    have gCi : vc[i]? = some (.int (Int32.ofNat (xs.length + 1))) := by rw [gC i hi, hl]
    have hl16 : xs.length < 16 := by have q := lE i hi; have q2 := gE i hi xs.length x (by rw [hx]; simp); have q3 := (List.getElem?_eq_some_iff.mp q2).1; omega
    refine go_aloadN C (pc' := 1) dc_prog_51_method_4_code_0 rfl rfl rfl ?_
    refine go_getF C (pc' := 4) (host := "") (Or.inl (wd_15 hw)) Via.refl fC dc_prog_51_method_4_code_1 rfl ?_
    refine go_aloadN C (pc' := 5) dc_prog_51_method_4_code_4 rfl rfl rfl ?_
    refine go_getF C (pc' := 8) (host := "") (Or.inl (wd_35 hw)) Via.refl fL dc_prog_51_method_4_code_5 rfl ?_
    refine go_aloadN C (pc' := 9) dc_prog_51_method_4_code_8 rfl rfl rfl ?_
    refine go_getF C (pc' := 12) (host := "") (Or.inl (wd_12 hw)) Via.refl fB dc_prog_51_method_4_code_9 rfl ?_
    refine go_alen C (pc' := 13) aB (z := n.toInt32) (by rw [lB]) dc_prog_51_method_4_code_12 rfl ?_
    refine go_i2l C (pc' := 14) dc_prog_51_method_4_code_13 rfl ?_
    refine go_lrem C (pc' := 15) dc_prog_51_method_4_code_14 ix3 rfl ?_
    refine go_l2i C (pc' := 16) dc_prog_51_method_4_code_15 rfl ?_
    refine go_iaget C (pc' := 17) aC ix1 (i := i) ix2 gCi dc_prog_51_method_4_code_16 rfl ?_
    refine go_ifYes C (pc' := 33) dc_prog_51_method_4_code_17 ((if0 _ _).trans (feq (fun q => by have q1 := own_cnt (k := xs.length + 1) (by omega); rw [q] at q1; have q2 : (0 : Int32).toInt = 0 := (by decide); omega)).2) (by decide) (by decide) ?_
    refine go_aloadN C (pc' := 34) dc_prog_51_method_4_code_33 rfl rfl rfl ?_
    refine go_getF C (pc' := 37) (host := "") (Or.inl (wd_35 hw)) Via.refl fL dc_prog_51_method_4_code_34 rfl ?_
    refine go_aloadN C (pc' := 38) dc_prog_51_method_4_code_37 rfl rfl rfl ?_
    refine go_getF C (pc' := 41) (host := "") (Or.inl (wd_12 hw)) Via.refl fB dc_prog_51_method_4_code_38 rfl ?_
    refine go_alen C (pc' := 42) aB (z := n.toInt32) (by rw [lB]) dc_prog_51_method_4_code_41 rfl ?_
    refine go_i2l C (pc' := 43) dc_prog_51_method_4_code_42 rfl ?_
    refine go_lrem C (pc' := 44) dc_prog_51_method_4_code_43 ix3 rfl ?_
    refine go_l2i C (pc' := 45) dc_prog_51_method_4_code_44 rfl ?_
    refine go_istoreN C (pc' := 46) dc_prog_51_method_4_code_45 (Ls' := #[(.val (.ref b)), (.val (.int (lo % n.toInt32.toInt64).toInt32))]) rfl rfl ?_
    refine go_aloadN C (pc' := 47) dc_prog_51_method_4_code_46 rfl rfl rfl ?_
    refine go_dup C (pc' := 48) dc_prog_51_method_4_code_47 rfl rfl ?_
    refine go_getF C (pc' := 51) (host := "") (Or.inl (wd_23 hw)) Via.refl fS dc_prog_51_method_4_code_48 rfl ?_
    refine go_lconst C (pc' := 52) dc_prog_51_method_4_code_51 (z := (1 : Int64)) (by decide) rfl ?_
    refine go_lsub C (pc' := 53) dc_prog_51_method_4_code_52 rfl ?_
    refine go_putF C (pc' := 56) (host := "") (Or.inl (wd_23 hw)) Via.refl fS eQ (Or.inl (wd_24 hw)) (wd_2 hw) (ty := .long) (by decide) rfl rfl dc_prog_51_method_4_code_53 rfl m1 ?_
    intro h1 W1 F1
    refine go_aloadN C (pc' := 57) dc_prog_51_method_4_code_56 rfl rfl rfl ?_
    refine go_getF C (pc' := 60) (host := "") (Or.inl (wd_12 hw)) Via.refl (fB.other W1 (Or.inr (slot_ne (a0 := a0) (Or.inr (wd_13 hw)) (Or.inl (wd_24 hw)) (by decide) (t := (.array (.array .int))) (t' := .long) (by decide) (by decide)))) dc_prog_51_method_4_code_57 rfl ?_
    refine go_iloadN C (pc' := 61) dc_prog_51_method_4_code_60 rfl rfl ?_
    refine go_raget C (pc' := 62) (aB.other W1 n1) rfl ix1 (i := i) ix2 (gB i hi) dc_prog_51_method_4_code_61 rfl ?_
    refine go_aloadN C (pc' := 63) dc_prog_51_method_4_code_62 rfl rfl rfl ?_
    refine go_getF C (pc' := 66) (host := "") (Or.inl (wd_15 hw)) Via.refl (fC.other W1 (Or.inr (slot_ne (a0 := a0) (Or.inr (wd_16 hw)) (Or.inl (wd_24 hw)) (by decide) (t := (.array .int)) (t' := .long) (by decide) (by decide)))) dc_prog_51_method_4_code_63 rfl ?_
    refine go_iloadN C (pc' := 67) dc_prog_51_method_4_code_66 rfl rfl ?_
    refine go_dup2 C (pc' := 68) dc_prog_51_method_4_code_67 rfl rfl rfl ?_
    refine go_iaget C (pc' := 69) (aC.other W1 n2) ix1 (i := i) ix2 gCi dc_prog_51_method_4_code_68 rfl ?_
    refine go_iconst C (pc' := 70) dc_prog_51_method_4_code_69 (z := (1 : Int32)) (by decide) rfl ?_
    refine go_isub C (pc' := 71) dc_prog_51_method_4_code_70 rfl ?_
    refine go_st (st' := [(.int (Int32.ofNat xs.length)), (.int (lo % n.toInt32.toInt64).toInt32), (.ref cc), (.ref (A i))]) (by rw [show Int32.ofNat (xs.length + 1) - (1 : Int32) = Int32.ofNat xs.length from own_cnt_sub (by omega)]) ?_
    refine go_dupX2 C (pc' := 72) dc_prog_51_method_4_code_71 rfl rfl rfl rfl ?_
    refine go_iaset C (pc' := 73) (aC.other W1 n2) ix1 (i := i) ix2 (by rw [lC]; exact hi) (vs' := (vc.set i (.int (Int32.ofNat xs.length)))) rfl dc_prog_51_method_4_code_72 rfl m3 ?_
    intro h2 W2 A2
    obtain ⟨cn1, cn2⟩ := own_cnt_nat (k := xs.length) (by omega)
    refine go_iaget C (pc' := 74) (((aE i hi).other W1 (n4 i hi).1).other W2 (n4 i hi).2.2) cn1 (i := xs.length) cn2 (gE i hi xs.length x (by rw [hx]; simp)) dc_prog_51_method_4_code_73 rfl ?_
    have aE' : ∀ j, j < n → Ar Z _ (A j) .int (kk j) (E j) := fun j hj => (((aE j hj).other W1 (n4 j hj).1).other W2 (n4 j hj).2.2)
    exact go_retI C dc_prog_51_method_4_code_74 (by decide) (by decide) ⟨rfl, ⟨bb, cc, kb, kc, A, kk, vb, _, E, ((eQ.wr W1).wr W2), ((fB.other W1 (Or.inr (slot_ne (a0 := a0) (Or.inr (wd_13 hw)) (Or.inl (wd_24 hw)) (by decide) (t := (.array (.array .int))) (t' := .long) (by decide) (by decide)))).other W2 (Or.inl (Ne.symm n2))), ((fC.other W1 (Or.inr (slot_ne (a0 := a0) (Or.inr (wd_16 hw)) (Or.inl (wd_24 hw)) (by decide) (t := (.array .int)) (t' := .long) (by decide) (by decide)))).other W2 (Or.inl (Ne.symm n2))), ((fL.other W1 (Or.inr (slot_ne (a0 := a0) (Or.inl (wd_36 hw)) (Or.inl (wd_24 hw)) (by decide) (t := .long) (t' := .long) (by decide) (by decide)))).other W2 (Or.inl (Ne.symm n2))), (F1.other W2 (Or.inl (Ne.symm n2))), ((aB.other W1 n1).other W2 (Ne.symm n3)), lB, gB, A2, (by rw [List.length_set]; exact lC), q_len lC gC hi rfl, aE', lE, q_pop gE hx, ⟨n1, n2, n3, n4, n5⟩, m1, m2, m3, m4⟩⟩
  | succ k ih =>
    intro lo h hk h0 hemp hQ
    obtain ⟨bb, cc, kb, kc, A, kk, vb, vc, E, eQ, fB, fC, fL, fS, aB, lB, gB, aC, lC, gC, aE, lE, gE, ⟨n1, n2, n3, n4, n5⟩, m1, m2, m3, m4⟩ := hQ
    obtain ⟨ix1, ix2, ix3⟩ := own_idx lo n h0 hn hn8
    have hj : lo.toInt.toNat % n < n := Nat.mod_lt _ hn
    have gCi : vc[lo.toInt.toNat % n]? = some (.int (0 : Int32)) := by rw [gC _ hj, hemp lo.toInt.toNat (by omega) (by omega)]; rfl
    refine go_aloadN C (pc' := 1) dc_prog_51_method_4_code_0 rfl rfl rfl ?_
    refine go_getF C (pc' := 4) (host := "") (Or.inl (wd_15 hw)) Via.refl fC dc_prog_51_method_4_code_1 rfl ?_
    refine go_aloadN C (pc' := 5) dc_prog_51_method_4_code_4 rfl rfl rfl ?_
    refine go_getF C (pc' := 8) (host := "") (Or.inl (wd_35 hw)) Via.refl fL dc_prog_51_method_4_code_5 rfl ?_
    refine go_aloadN C (pc' := 9) dc_prog_51_method_4_code_8 rfl rfl rfl ?_
    refine go_getF C (pc' := 12) (host := "") (Or.inl (wd_12 hw)) Via.refl fB dc_prog_51_method_4_code_9 rfl ?_
    refine go_alen C (pc' := 13) aB (z := n.toInt32) (by rw [lB]) dc_prog_51_method_4_code_12 rfl ?_
    refine go_i2l C (pc' := 14) dc_prog_51_method_4_code_13 rfl ?_
    refine go_lrem C (pc' := 15) dc_prog_51_method_4_code_14 ix3 rfl ?_
    refine go_l2i C (pc' := 16) dc_prog_51_method_4_code_15 rfl ?_
    refine go_iaget C (pc' := 17) aC ix1 (i := (lo.toInt.toNat % n)) ix2 gCi dc_prog_51_method_4_code_16 rfl ?_
    refine go_ifNo C (pc' := 20) dc_prog_51_method_4_code_17 (by decide) rfl ?_
    refine go_aloadN C (pc' := 21) dc_prog_51_method_4_code_20 rfl rfl rfl ?_
    refine go_dup C (pc' := 22) dc_prog_51_method_4_code_21 rfl rfl ?_
    refine go_getF C (pc' := 25) (host := "") (Or.inl (wd_35 hw)) Via.refl fL dc_prog_51_method_4_code_22 rfl ?_
    refine go_lconst C (pc' := 26) dc_prog_51_method_4_code_25 (z := (1 : Int64)) (by decide) rfl ?_
    refine go_ladd C (pc' := 27) dc_prog_51_method_4_code_26 rfl ?_
    refine go_putF C (pc' := 30) (host := "") (Or.inl (wd_35 hw)) Via.refl fL eQ (Or.inl (wd_36 hw)) (wd_2 hw) (ty := .long) (by decide) rfl rfl dc_prog_51_method_4_code_27 rfl m1 ?_
    intro h3 W3 F3
    refine go_goto C (pc' := 0) dc_prog_51_method_4_code_30 (by decide) (by decide) ?_
    have aE' : ∀ j, j < n → Ar Z _ (A j) .int (kk j) (E j) := fun j hj => ((aE j hj).other W3 (n4 j hj).1)
    have hinc := own_inc (lo := lo) (by omega) h0
    exact ih (lo + 1) _ (by omega) (by omega) (fun t h1 h2 => hemp t (by omega) h2) ⟨bb, cc, kb, kc, A, kk, vb, vc, E, (eQ.wr W3), (fB.other W3 (Or.inr (slot_ne (a0 := a0) (Or.inr (wd_13 hw)) (Or.inl (wd_36 hw)) (by decide) (t := (.array (.array .int))) (t' := .long) (by decide) (by decide)))), (fC.other W3 (Or.inr (slot_ne (a0 := a0) (Or.inr (wd_16 hw)) (Or.inl (wd_36 hw)) (by decide) (t := (.array .int)) (t' := .long) (by decide) (by decide)))), F3, (fS.other W3 (Or.inr (slot_ne (a0 := a0) (Or.inl (wd_24 hw)) (Or.inl (wd_36 hw)) (by decide) (t := .long) (t' := .long) (by decide) (by decide)))), (aB.other W3 n1), lB, gB, (aC.other W3 n2), lC, gC, aE', lE, gE, ⟨n1, n2, n3, n4, n5⟩, m1, m2, m3, m4⟩
set_option maxRecDepth 65536 in
set_option maxHeartbeats 4000000 in
theorem empty_met (l : Launch) (Z : State) (a0 : Array Value) (hw : ∀ d ∈ tables_1, d.before a0 Z = true) (n0 : Nat) (h : Heap) (O : Old Z n0 h) (b : Addr) (n : Nat) (f : Nat → List Int32) (lo sz : Int64) (hQ : QAt Z h n0 b n f lo sz) (r : Int32) (hr : (if sz = 0 then (1 : Int32) else 0) = r) :
    Met l Z n0 (⟨"com/example/invariant/invariant/check/BucketQueue", "isEmpty", "()Z"⟩ : MethodName) prog_51_method_2_code 1 (some .boolean) [] ({ frames := 0, cells := 0, slots := 0, locals := 0 } : Room) #[(.ref b)] h (fun v h' => v = some (.int r) ∧ h = h') := by
  refine met_of (Ls := #[(.val (.ref b))]) (by decide +kernel) (fun m => by first | (simp [entryFrame, mkF, argsToLocals, Value.category]; done) | rfl) O ?_
  intro p e s m below meth cd C
  obtain ⟨bb, cc, kb, kc, A, kk, vb, vc, E, eQ, fB, fC, fL, fS, aB, lB, gB, aC, lC, gC, aE, lE, gE, ⟨n1, n2, n3, n4, n5⟩, m1, m2, m3, m4⟩ := hQ
  refine go_aloadN C (pc' := 1) dc_prog_51_method_2_code_0 rfl rfl rfl ?_
  refine go_getF C (pc' := 4) (host := "") (Or.inl (wd_23 hw)) Via.refl fS dc_prog_51_method_2_code_1 rfl ?_
  refine go_lconst C (pc' := 5) dc_prog_51_method_2_code_4 (z := (0 : Int64)) (by decide) rfl ?_
  refine go_lcmp C (pc' := 6) dc_prog_51_method_2_code_5 rfl ?_
  by_cases hc1 : (lcmpW sz (0 : Int64)) = 0
  · refine go_ifNo C (pc' := 9) dc_prog_51_method_2_code_6 ((if0 _ _).trans (teq hc1).2) rfl ?_
    refine go_iconst C (pc' := 10) dc_prog_51_method_2_code_9 (z := (1 : Int32)) (by decide) rfl ?_
    refine go_goto C (pc' := 14) dc_prog_51_method_2_code_10 (by decide) (by decide) ?_
    exact go_retN C (by simp) (z' := (1 : Int32)) (by decide) dc_prog_51_method_2_code_14 (by decide) (by decide) ⟨congrArg (fun z => some (Value.int z)) ((if_pos ((lw_eq _ _).mp hc1)).symm.trans hr), rfl⟩
  · refine go_ifYes C (pc' := 13) dc_prog_51_method_2_code_6 ((if0 _ _).trans (feq hc1).2) (by decide) (by decide) ?_
    refine go_iconst C (pc' := 14) dc_prog_51_method_2_code_13 (z := (0 : Int32)) (by decide) rfl ?_
    exact go_retN C (by simp) (z' := (0 : Int32)) (by decide) dc_prog_51_method_2_code_14 (by decide) (by decide) ⟨congrArg (fun z => some (Value.int z)) ((if_neg (fun q => hc1 ((lw_eq _ _).mpr q))).symm.trans hr), rfl⟩
set_option maxRecDepth 65536 in
set_option maxHeartbeats 4000000 in
theorem lowest_met (l : Launch) (Z : State) (a0 : Array Value) (hw : ∀ d ∈ tables_1, d.before a0 Z = true) (n0 : Nat) (h : Heap) (O : Old Z n0 h) (b : Addr) (n : Nat) (f : Nat → List Int32) (lo sz : Int64) (hQ : QAt Z h n0 b n f lo sz) :
    Met l Z n0 (⟨"com/example/invariant/invariant/check/BucketQueue", "lowest", "()J"⟩ : MethodName) prog_51_method_5_code 1 (some .long) [] ({ frames := 0, cells := 0, slots := 0, locals := 0 } : Room) #[(.ref b)] h (fun v h' => v = some (.long lo) ∧ h = h') := by
  refine met_of (Ls := #[(.val (.ref b))]) (by decide +kernel) (fun m => by first | (simp [entryFrame, mkF, argsToLocals, Value.category]; done) | rfl) O ?_
  intro p e s m below meth cd C
  obtain ⟨bb, cc, kb, kc, A, kk, vb, vc, E, eQ, fB, fC, fL, fS, aB, lB, gB, aC, lC, gC, aE, lE, gE, ⟨n1, n2, n3, n4, n5⟩, m1, m2, m3, m4⟩ := hQ
  refine go_aloadN C (pc' := 1) dc_prog_51_method_5_code_0 rfl rfl rfl ?_
  refine go_getF C (pc' := 4) (host := "") (Or.inl (wd_35 hw)) Via.refl fL dc_prog_51_method_5_code_1 rfl ?_
  exact go_retL C dc_prog_51_method_5_code_4 (by decide) (by decide) ⟨rfl, rfl⟩
set_option maxRecDepth 65536 in
set_option maxHeartbeats 4000000 in
theorem min_met (l : Launch) (Z : State) (a0 : Array Value) (hw : ∀ d ∈ tables_1, d.before a0 Z = true) (n0 : Nat) (h : Heap) (O : Old Z n0 h) (a b r : Int64) (hr : (if b < a then b else a) = r) :
    Met l Z n0 (⟨"java/lang/Math", "min", "(JJ)J"⟩ : MethodName) jdk_29_method_70_code 4 (some .long) [] ({ frames := 0, cells := 0, slots := 0, locals := 0 } : Room) #[(.long a), (.long b)] h (fun v h' => v = some (.long r) ∧ h = h') := by
  refine met_of (Ls := #[(.val (.long a)), .second, (.val (.long b)), .second]) (by decide +kernel) (fun m => by first | (simp [entryFrame, mkF, argsToLocals, Value.category]; done) | rfl) O ?_
  intro p e s m below meth cd C
  refine go_lloadN C (pc' := 1) dc_jdk_29_method_70_code_0 rfl rfl ?_
  refine go_lloadN C (pc' := 2) dc_jdk_29_method_70_code_1 rfl rfl ?_
  refine go_lcmp C (pc' := 3) dc_jdk_29_method_70_code_2 rfl ?_
  by_cases hc1 : 0 < (lcmpW a b)
  · refine go_ifYes C (pc' := 10) dc_jdk_29_method_70_code_3 ((if0 _ _).trans (tlt hc1).2.2.1) (by decide) (by decide) ?_
    refine go_lloadN C (pc' := 11) dc_jdk_29_method_70_code_10 rfl rfl ?_
    exact go_retL C dc_jdk_29_method_70_code_11 (by decide) (by decide) ⟨congrArg (fun z => some (Value.long z)) ((if_pos ((lw_gt _ _).mp hc1)).symm.trans hr), rfl⟩
  · refine go_ifNo C (pc' := 6) dc_jdk_29_method_70_code_3 ((if0 _ _).trans (flt hc1).2.2.1) rfl ?_
    refine go_lloadN C (pc' := 7) dc_jdk_29_method_70_code_6 rfl rfl ?_
    refine go_goto C (pc' := 11) dc_jdk_29_method_70_code_7 (by decide) (by decide) ?_
    exact go_retL C dc_jdk_29_method_70_code_11 (by decide) (by decide) ⟨congrArg (fun z => some (Value.long z)) ((if_neg (fun q => hc1 ((lw_gt _ _).mpr q))).symm.trans hr), rfl⟩
set_option maxRecDepth 65536 in
set_option maxHeartbeats 4000000 in
theorem init_8 (l : Launch) (Z : State) (a0 : Array Value) (hw : ∀ d ∈ tables_1, d.before a0 Z = true) (n0 : Nat) (h : Heap) (O : Old Z n0 h) (b : Addr) (E_b : Exa Z h b "com/example/invariant/invariant/check/BucketQueue") (F_b_buckets : Fld Z h b "com/example/invariant/invariant/check/BucketQueue" "buckets" "[[I" .null) (F_b_counts : Fld Z h b "com/example/invariant/invariant/check/BucketQueue" "counts" "[I" .null) (F_b_lowest : Fld Z h b "com/example/invariant/invariant/check/BucketQueue" "lowest" "J" (.long (0 : Int64))) (F_b_size : Fld Z h b "com/example/invariant/invariant/check/BucketQueue" "size" "J" (.long (0 : Int64))) (nb : n0 ≤ b) :
    Met l Z n0 (⟨"com/example/invariant/invariant/check/BucketQueue", "<init>", "(I)V"⟩ : MethodName) prog_51_method_1_code 3 none [] ({ frames := 1, cells := 10, slots := 144, locals := 12 } : Room) #[(.ref b), (.int (8 : Int32))] h (fun v h' => v = none ∧ QAt Z h' n0 b 8 (fun _ => []) 0 0) := by
  refine met_of (Ls := #[(.val (.ref b)), (.val (.int (8 : Int32))), .unset]) (by decide +kernel) (fun m => by first | (simp [entryFrame, mkF, argsToLocals, Value.category]; done) | rfl) O ?_
  intro p e s m below meth cd C
  refine go_aloadN C (pc' := 1) dc_prog_51_method_1_code_0 rfl rfl rfl ?_
  refine go_initO C (pc' := 4) (wd_7 hw) (wd_8 hw) (wd_9 hw) rfl dc_prog_51_method_1_code_1 rfl (by decide) (by decide) ?_
  refine go_aloadN C (pc' := 5) dc_prog_51_method_1_code_4 rfl rfl rfl ?_
  refine go_iloadN C (pc' := 6) dc_prog_51_method_1_code_5 rfl rfl ?_
  refine go_newAA C (pc' := 9) (len := 8) (ty := .int) rfl (ad := "[[I") rfl (wd_10 hw) (wd_11 hw) dc_prog_51_method_1_code_6 rfl (by decide) (by decide) (by decide) (by decide) (by decide) ?_
  intro h1 b1 k1 g1 n1 E1 A1 V1 X1
  have sz_b1 := Nat.le_trans (Nat.le_refl _) (Nat.le_of_eq g1.symm)
  have ne_b_b1 : b ≠ b1 := Nat.ne_of_lt (by rw [g1]; exact E_b.lt)
  refine go_putF C (pc' := 12) (host := "") (Or.inl (wd_12 hw)) Via.refl (F_b_buckets.ext E1) (E_b.ext E1) (Or.inr ⟨(wd_13 hw), rfl, rfl⟩) (wd_2 hw) (ty := (.array (.array .int))) (by decide) rfl rfl dc_prog_51_method_1_code_9 rfl nb ?_
  intro h2 W2 F2
  refine go_aloadN C (pc' := 13) dc_prog_51_method_1_code_12 rfl rfl rfl ?_
  refine go_iloadN C (pc' := 14) dc_prog_51_method_1_code_13 rfl rfl ?_
  refine go_newPA C (pc' := 16) (len := 8) (ty := .int) rfl (wd_14 hw) dc_prog_51_method_1_code_14 rfl (by decide) (by decide) (by decide) (by decide) (by decide) ?_
  intro h3 b3 k3 g3 n3 E3 A3
  have sz_b3 := Nat.le_trans (Nat.le_trans (Nat.le_trans (Nat.le_refl _) E1.1) (Nat.le_of_eq W2.size.symm)) (Nat.le_of_eq g3.symm)
  have ne_b_b3 : b ≠ b3 := Nat.ne_of_lt (by rw [g3]; exact ((E_b.ext E1).wr W2).lt)
  have ne_b1_b3 : b1 ≠ b3 := Nat.ne_of_lt (by rw [g3]; exact (A1.other W2 (Ne.symm ne_b_b1)).lt)
  refine go_putF C (pc' := 19) (host := "") (Or.inl (wd_15 hw)) Via.refl (((F_b_counts.ext E1).other W2 (Or.inr (slot_ne (a0 := a0) (Or.inr (wd_16 hw)) (Or.inr (wd_13 hw)) (by decide) (t := (.array .int)) (t' := (.array (.array .int))) (by decide) (by decide)))).ext E3) (((E_b.ext E1).wr W2).ext E3) (Or.inr ⟨(wd_16 hw), rfl, rfl⟩) (wd_2 hw) (ty := (.array .int)) (by decide) rfl rfl dc_prog_51_method_1_code_16 rfl nb ?_
  intro h4 W4 F4
  refine go_iconst C (pc' := 20) dc_prog_51_method_1_code_19 (z := (0 : Int32)) (by decide) rfl ?_
  refine go_istoreN C (pc' := 21) dc_prog_51_method_1_code_20 (Ls' := #[(.val (.ref b)), (.val (.int (8 : Int32))), (.val (.int (0 : Int32)))]) rfl rfl ?_
  refine go_iloadN C (pc' := 22) dc_prog_51_method_1_code_21 rfl rfl ?_
  refine go_iloadN C (pc' := 23) dc_prog_51_method_1_code_22 rfl rfl ?_
  refine go_icmpNo C (pc' := 26) dc_prog_51_method_1_code_23 (by decide) rfl ?_
  refine go_aloadN C (pc' := 27) dc_prog_51_method_1_code_26 rfl rfl rfl ?_
  refine go_getF C (pc' := 30) (host := "") (Or.inl (wd_12 hw)) Via.refl ((F2.ext E3).other W4 (Or.inr (slot_ne (a0 := a0) (Or.inr (wd_13 hw)) (Or.inr (wd_16 hw)) (by decide) (t := (.array (.array .int))) (t' := (.array .int)) (by decide) (by decide)))) dc_prog_51_method_1_code_27 rfl ?_
  refine go_iloadN C (pc' := 31) dc_prog_51_method_1_code_30 rfl rfl ?_
  refine go_bipush C (pc' := 33) dc_prog_51_method_1_code_31 (z := (16 : Int32)) (by decide) rfl ?_
  refine go_newPE C (pc' := 35) (len := 16) (ty := .int) rfl (ad := "[I") rfl (wd_14 hw) dc_prog_51_method_1_code_33 rfl (by decide) (by decide) (by decide) (by decide) (by decide) ?_
  intro h5 b5 k5 g5 n5 E5 A5 X5
  have sz_b5 := Nat.le_trans (Nat.le_trans (Nat.le_trans (Nat.le_trans (Nat.le_trans (Nat.le_refl _) E1.1) (Nat.le_of_eq W2.size.symm)) E3.1) (Nat.le_of_eq W4.size.symm)) (Nat.le_of_eq g5.symm)
  have ne_b_b5 : b ≠ b5 := Nat.ne_of_lt (by rw [g5]; exact ((((E_b.ext E1).wr W2).ext E3).wr W4).lt)
  have ne_b1_b5 : b1 ≠ b5 := Nat.ne_of_lt (by rw [g5]; exact (((A1.other W2 (Ne.symm ne_b_b1)).ext E3).other W4 (Ne.symm ne_b_b1)).lt)
  have ne_b3_b5 : b3 ≠ b5 := Nat.ne_of_lt (by rw [g5]; exact (A3.other W4 (Ne.symm ne_b_b3)).lt)
  refine go_aaset C (pc' := 36) ((((A1.other W2 (Ne.symm ne_b_b1)).ext E3).other W4 (Ne.symm ne_b_b1)).ext E5) V1 (Ins.self X5) (by decide) (i := 0) (by decide) (by simp) (vs' := [(.ref b5), .null, .null, .null, .null, .null, .null, .null]) rfl dc_prog_51_method_1_code_35 rfl n1 ?_
  intro h6 W6 A6
  refine go_iinc C (pc' := 39) dc_prog_51_method_1_code_36 rfl (Ls' := #[(.val (.ref b)), (.val (.int (8 : Int32))), (.val (.int ((0 : Int32) + (1 : Int32))))]) rfl rfl ?_
  refine go_ls (Ls' := #[(.val (.ref b)), (.val (.int (8 : Int32))), (.val (.int (1 : Int32)))]) (by rw [show ((0 : Int32) + (1 : Int32)) = (1 : Int32) from by decide]) ?_
  refine go_goto C (pc' := 21) dc_prog_51_method_1_code_39 (by decide) (by decide) ?_
  refine go_iloadN C (pc' := 22) dc_prog_51_method_1_code_21 rfl rfl ?_
  refine go_iloadN C (pc' := 23) dc_prog_51_method_1_code_22 rfl rfl ?_
  refine go_icmpNo C (pc' := 26) dc_prog_51_method_1_code_23 (by decide) rfl ?_
  refine go_aloadN C (pc' := 27) dc_prog_51_method_1_code_26 rfl rfl rfl ?_
  refine go_getF C (pc' := 30) (host := "") (Or.inl (wd_12 hw)) Via.refl ((((F2.ext E3).other W4 (Or.inr (slot_ne (a0 := a0) (Or.inr (wd_13 hw)) (Or.inr (wd_16 hw)) (by decide) (t := (.array (.array .int))) (t' := (.array .int)) (by decide) (by decide)))).ext E5).other W6 (Or.inl ne_b_b1)) dc_prog_51_method_1_code_27 rfl ?_
  refine go_iloadN C (pc' := 31) dc_prog_51_method_1_code_30 rfl rfl ?_
  refine go_bipush C (pc' := 33) dc_prog_51_method_1_code_31 (z := (16 : Int32)) (by decide) rfl ?_
  refine go_newPE C (pc' := 35) (len := 16) (ty := .int) rfl (ad := "[I") rfl (wd_14 hw) dc_prog_51_method_1_code_33 rfl (by decide) (by decide) (by decide) (by decide) (by decide) ?_
  intro h7 b7 k7 g7 n7 E7 A7 X7
  have sz_b7 := Nat.le_trans (Nat.le_trans (Nat.le_trans (Nat.le_trans (Nat.le_trans (Nat.le_trans (Nat.le_trans (Nat.le_refl _) E1.1) (Nat.le_of_eq W2.size.symm)) E3.1) (Nat.le_of_eq W4.size.symm)) E5.1) (Nat.le_of_eq W6.size.symm)) (Nat.le_of_eq g7.symm)
  have ne_b_b7 : b ≠ b7 := Nat.ne_of_lt (by rw [g7]; exact ((((((E_b.ext E1).wr W2).ext E3).wr W4).ext E5).wr W6).lt)
  have ne_b1_b7 : b1 ≠ b7 := Nat.ne_of_lt (by rw [g7]; exact A6.lt)
  have ne_b3_b7 : b3 ≠ b7 := Nat.ne_of_lt (by rw [g7]; exact (((A3.other W4 (Ne.symm ne_b_b3)).ext E5).other W6 (Ne.symm ne_b1_b3)).lt)
  have ne_b5_b7 : b5 ≠ b7 := Nat.ne_of_lt (by rw [g7]; exact (A5.other W6 (Ne.symm ne_b1_b5)).lt)
  refine go_aaset C (pc' := 36) (A6.ext E7) V1 (Ins.self X7) (by decide) (i := 1) (by decide) (by simp) (vs' := [(.ref b5), (.ref b7), .null, .null, .null, .null, .null, .null]) rfl dc_prog_51_method_1_code_35 rfl n1 ?_
  intro h8 W8 A8
  refine go_iinc C (pc' := 39) dc_prog_51_method_1_code_36 rfl (Ls' := #[(.val (.ref b)), (.val (.int (8 : Int32))), (.val (.int ((1 : Int32) + (1 : Int32))))]) rfl rfl ?_
  refine go_ls (Ls' := #[(.val (.ref b)), (.val (.int (8 : Int32))), (.val (.int (2 : Int32)))]) (by rw [show ((1 : Int32) + (1 : Int32)) = (2 : Int32) from by decide]) ?_
  refine go_goto C (pc' := 21) dc_prog_51_method_1_code_39 (by decide) (by decide) ?_
  refine go_iloadN C (pc' := 22) dc_prog_51_method_1_code_21 rfl rfl ?_
  refine go_iloadN C (pc' := 23) dc_prog_51_method_1_code_22 rfl rfl ?_
  refine go_icmpNo C (pc' := 26) dc_prog_51_method_1_code_23 (by decide) rfl ?_
  refine go_aloadN C (pc' := 27) dc_prog_51_method_1_code_26 rfl rfl rfl ?_
  refine go_getF C (pc' := 30) (host := "") (Or.inl (wd_12 hw)) Via.refl ((((((F2.ext E3).other W4 (Or.inr (slot_ne (a0 := a0) (Or.inr (wd_13 hw)) (Or.inr (wd_16 hw)) (by decide) (t := (.array (.array .int))) (t' := (.array .int)) (by decide) (by decide)))).ext E5).other W6 (Or.inl ne_b_b1)).ext E7).other W8 (Or.inl ne_b_b1)) dc_prog_51_method_1_code_27 rfl ?_
  refine go_iloadN C (pc' := 31) dc_prog_51_method_1_code_30 rfl rfl ?_
  refine go_bipush C (pc' := 33) dc_prog_51_method_1_code_31 (z := (16 : Int32)) (by decide) rfl ?_
  refine go_newPE C (pc' := 35) (len := 16) (ty := .int) rfl (ad := "[I") rfl (wd_14 hw) dc_prog_51_method_1_code_33 rfl (by decide) (by decide) (by decide) (by decide) (by decide) ?_
  intro h9 b9 k9 g9 n9 E9 A9 X9
  have sz_b9 := Nat.le_trans (Nat.le_trans (Nat.le_trans (Nat.le_trans (Nat.le_trans (Nat.le_trans (Nat.le_trans (Nat.le_trans (Nat.le_trans (Nat.le_refl _) E1.1) (Nat.le_of_eq W2.size.symm)) E3.1) (Nat.le_of_eq W4.size.symm)) E5.1) (Nat.le_of_eq W6.size.symm)) E7.1) (Nat.le_of_eq W8.size.symm)) (Nat.le_of_eq g9.symm)
  have ne_b_b9 : b ≠ b9 := Nat.ne_of_lt (by rw [g9]; exact ((((((((E_b.ext E1).wr W2).ext E3).wr W4).ext E5).wr W6).ext E7).wr W8).lt)
  have ne_b1_b9 : b1 ≠ b9 := Nat.ne_of_lt (by rw [g9]; exact A8.lt)
  have ne_b3_b9 : b3 ≠ b9 := Nat.ne_of_lt (by rw [g9]; exact (((((A3.other W4 (Ne.symm ne_b_b3)).ext E5).other W6 (Ne.symm ne_b1_b3)).ext E7).other W8 (Ne.symm ne_b1_b3)).lt)
  have ne_b5_b9 : b5 ≠ b9 := Nat.ne_of_lt (by rw [g9]; exact (((A5.other W6 (Ne.symm ne_b1_b5)).ext E7).other W8 (Ne.symm ne_b1_b5)).lt)
  have ne_b7_b9 : b7 ≠ b9 := Nat.ne_of_lt (by rw [g9]; exact (A7.other W8 (Ne.symm ne_b1_b7)).lt)
  refine go_aaset C (pc' := 36) (A8.ext E9) V1 (Ins.self X9) (by decide) (i := 2) (by decide) (by simp) (vs' := [(.ref b5), (.ref b7), (.ref b9), .null, .null, .null, .null, .null]) rfl dc_prog_51_method_1_code_35 rfl n1 ?_
  intro h10 W10 A10
  refine go_iinc C (pc' := 39) dc_prog_51_method_1_code_36 rfl (Ls' := #[(.val (.ref b)), (.val (.int (8 : Int32))), (.val (.int ((2 : Int32) + (1 : Int32))))]) rfl rfl ?_
  refine go_ls (Ls' := #[(.val (.ref b)), (.val (.int (8 : Int32))), (.val (.int (3 : Int32)))]) (by rw [show ((2 : Int32) + (1 : Int32)) = (3 : Int32) from by decide]) ?_
  refine go_goto C (pc' := 21) dc_prog_51_method_1_code_39 (by decide) (by decide) ?_
  refine go_iloadN C (pc' := 22) dc_prog_51_method_1_code_21 rfl rfl ?_
  refine go_iloadN C (pc' := 23) dc_prog_51_method_1_code_22 rfl rfl ?_
  refine go_icmpNo C (pc' := 26) dc_prog_51_method_1_code_23 (by decide) rfl ?_
  refine go_aloadN C (pc' := 27) dc_prog_51_method_1_code_26 rfl rfl rfl ?_
  refine go_getF C (pc' := 30) (host := "") (Or.inl (wd_12 hw)) Via.refl ((((((((F2.ext E3).other W4 (Or.inr (slot_ne (a0 := a0) (Or.inr (wd_13 hw)) (Or.inr (wd_16 hw)) (by decide) (t := (.array (.array .int))) (t' := (.array .int)) (by decide) (by decide)))).ext E5).other W6 (Or.inl ne_b_b1)).ext E7).other W8 (Or.inl ne_b_b1)).ext E9).other W10 (Or.inl ne_b_b1)) dc_prog_51_method_1_code_27 rfl ?_
  refine go_iloadN C (pc' := 31) dc_prog_51_method_1_code_30 rfl rfl ?_
  refine go_bipush C (pc' := 33) dc_prog_51_method_1_code_31 (z := (16 : Int32)) (by decide) rfl ?_
  refine go_newPE C (pc' := 35) (len := 16) (ty := .int) rfl (ad := "[I") rfl (wd_14 hw) dc_prog_51_method_1_code_33 rfl (by decide) (by decide) (by decide) (by decide) (by decide) ?_
  intro h11 b11 k11 g11 n11 E11 A11 X11
  have sz_b11 := Nat.le_trans (Nat.le_trans (Nat.le_trans (Nat.le_trans (Nat.le_trans (Nat.le_trans (Nat.le_trans (Nat.le_trans (Nat.le_trans (Nat.le_trans (Nat.le_trans (Nat.le_refl _) E1.1) (Nat.le_of_eq W2.size.symm)) E3.1) (Nat.le_of_eq W4.size.symm)) E5.1) (Nat.le_of_eq W6.size.symm)) E7.1) (Nat.le_of_eq W8.size.symm)) E9.1) (Nat.le_of_eq W10.size.symm)) (Nat.le_of_eq g11.symm)
  have ne_b_b11 : b ≠ b11 := Nat.ne_of_lt (by rw [g11]; exact ((((((((((E_b.ext E1).wr W2).ext E3).wr W4).ext E5).wr W6).ext E7).wr W8).ext E9).wr W10).lt)
  have ne_b1_b11 : b1 ≠ b11 := Nat.ne_of_lt (by rw [g11]; exact A10.lt)
  have ne_b3_b11 : b3 ≠ b11 := Nat.ne_of_lt (by rw [g11]; exact (((((((A3.other W4 (Ne.symm ne_b_b3)).ext E5).other W6 (Ne.symm ne_b1_b3)).ext E7).other W8 (Ne.symm ne_b1_b3)).ext E9).other W10 (Ne.symm ne_b1_b3)).lt)
  have ne_b5_b11 : b5 ≠ b11 := Nat.ne_of_lt (by rw [g11]; exact (((((A5.other W6 (Ne.symm ne_b1_b5)).ext E7).other W8 (Ne.symm ne_b1_b5)).ext E9).other W10 (Ne.symm ne_b1_b5)).lt)
  have ne_b7_b11 : b7 ≠ b11 := Nat.ne_of_lt (by rw [g11]; exact (((A7.other W8 (Ne.symm ne_b1_b7)).ext E9).other W10 (Ne.symm ne_b1_b7)).lt)
  have ne_b9_b11 : b9 ≠ b11 := Nat.ne_of_lt (by rw [g11]; exact (A9.other W10 (Ne.symm ne_b1_b9)).lt)
  refine go_aaset C (pc' := 36) (A10.ext E11) V1 (Ins.self X11) (by decide) (i := 3) (by decide) (by simp) (vs' := [(.ref b5), (.ref b7), (.ref b9), (.ref b11), .null, .null, .null, .null]) rfl dc_prog_51_method_1_code_35 rfl n1 ?_
  intro h12 W12 A12
  refine go_iinc C (pc' := 39) dc_prog_51_method_1_code_36 rfl (Ls' := #[(.val (.ref b)), (.val (.int (8 : Int32))), (.val (.int ((3 : Int32) + (1 : Int32))))]) rfl rfl ?_
  refine go_ls (Ls' := #[(.val (.ref b)), (.val (.int (8 : Int32))), (.val (.int (4 : Int32)))]) (by rw [show ((3 : Int32) + (1 : Int32)) = (4 : Int32) from by decide]) ?_
  refine go_goto C (pc' := 21) dc_prog_51_method_1_code_39 (by decide) (by decide) ?_
  refine go_iloadN C (pc' := 22) dc_prog_51_method_1_code_21 rfl rfl ?_
  refine go_iloadN C (pc' := 23) dc_prog_51_method_1_code_22 rfl rfl ?_
  refine go_icmpNo C (pc' := 26) dc_prog_51_method_1_code_23 (by decide) rfl ?_
  refine go_aloadN C (pc' := 27) dc_prog_51_method_1_code_26 rfl rfl rfl ?_
  refine go_getF C (pc' := 30) (host := "") (Or.inl (wd_12 hw)) Via.refl ((((((((((F2.ext E3).other W4 (Or.inr (slot_ne (a0 := a0) (Or.inr (wd_13 hw)) (Or.inr (wd_16 hw)) (by decide) (t := (.array (.array .int))) (t' := (.array .int)) (by decide) (by decide)))).ext E5).other W6 (Or.inl ne_b_b1)).ext E7).other W8 (Or.inl ne_b_b1)).ext E9).other W10 (Or.inl ne_b_b1)).ext E11).other W12 (Or.inl ne_b_b1)) dc_prog_51_method_1_code_27 rfl ?_
  refine go_iloadN C (pc' := 31) dc_prog_51_method_1_code_30 rfl rfl ?_
  refine go_bipush C (pc' := 33) dc_prog_51_method_1_code_31 (z := (16 : Int32)) (by decide) rfl ?_
  refine go_newPE C (pc' := 35) (len := 16) (ty := .int) rfl (ad := "[I") rfl (wd_14 hw) dc_prog_51_method_1_code_33 rfl (by decide) (by decide) (by decide) (by decide) (by decide) ?_
  intro h13 b13 k13 g13 n13 E13 A13 X13
  have sz_b13 := Nat.le_trans (Nat.le_trans (Nat.le_trans (Nat.le_trans (Nat.le_trans (Nat.le_trans (Nat.le_trans (Nat.le_trans (Nat.le_trans (Nat.le_trans (Nat.le_trans (Nat.le_trans (Nat.le_trans (Nat.le_refl _) E1.1) (Nat.le_of_eq W2.size.symm)) E3.1) (Nat.le_of_eq W4.size.symm)) E5.1) (Nat.le_of_eq W6.size.symm)) E7.1) (Nat.le_of_eq W8.size.symm)) E9.1) (Nat.le_of_eq W10.size.symm)) E11.1) (Nat.le_of_eq W12.size.symm)) (Nat.le_of_eq g13.symm)
  have ne_b_b13 : b ≠ b13 := Nat.ne_of_lt (by rw [g13]; exact ((((((((((((E_b.ext E1).wr W2).ext E3).wr W4).ext E5).wr W6).ext E7).wr W8).ext E9).wr W10).ext E11).wr W12).lt)
  have ne_b1_b13 : b1 ≠ b13 := Nat.ne_of_lt (by rw [g13]; exact A12.lt)
  have ne_b3_b13 : b3 ≠ b13 := Nat.ne_of_lt (by rw [g13]; exact (((((((((A3.other W4 (Ne.symm ne_b_b3)).ext E5).other W6 (Ne.symm ne_b1_b3)).ext E7).other W8 (Ne.symm ne_b1_b3)).ext E9).other W10 (Ne.symm ne_b1_b3)).ext E11).other W12 (Ne.symm ne_b1_b3)).lt)
  have ne_b5_b13 : b5 ≠ b13 := Nat.ne_of_lt (by rw [g13]; exact (((((((A5.other W6 (Ne.symm ne_b1_b5)).ext E7).other W8 (Ne.symm ne_b1_b5)).ext E9).other W10 (Ne.symm ne_b1_b5)).ext E11).other W12 (Ne.symm ne_b1_b5)).lt)
  have ne_b7_b13 : b7 ≠ b13 := Nat.ne_of_lt (by rw [g13]; exact (((((A7.other W8 (Ne.symm ne_b1_b7)).ext E9).other W10 (Ne.symm ne_b1_b7)).ext E11).other W12 (Ne.symm ne_b1_b7)).lt)
  have ne_b9_b13 : b9 ≠ b13 := Nat.ne_of_lt (by rw [g13]; exact (((A9.other W10 (Ne.symm ne_b1_b9)).ext E11).other W12 (Ne.symm ne_b1_b9)).lt)
  have ne_b11_b13 : b11 ≠ b13 := Nat.ne_of_lt (by rw [g13]; exact (A11.other W12 (Ne.symm ne_b1_b11)).lt)
  refine go_aaset C (pc' := 36) (A12.ext E13) V1 (Ins.self X13) (by decide) (i := 4) (by decide) (by simp) (vs' := [(.ref b5), (.ref b7), (.ref b9), (.ref b11), (.ref b13), .null, .null, .null]) rfl dc_prog_51_method_1_code_35 rfl n1 ?_
  intro h14 W14 A14
  refine go_iinc C (pc' := 39) dc_prog_51_method_1_code_36 rfl (Ls' := #[(.val (.ref b)), (.val (.int (8 : Int32))), (.val (.int ((4 : Int32) + (1 : Int32))))]) rfl rfl ?_
  refine go_ls (Ls' := #[(.val (.ref b)), (.val (.int (8 : Int32))), (.val (.int (5 : Int32)))]) (by rw [show ((4 : Int32) + (1 : Int32)) = (5 : Int32) from by decide]) ?_
  refine go_goto C (pc' := 21) dc_prog_51_method_1_code_39 (by decide) (by decide) ?_
  refine go_iloadN C (pc' := 22) dc_prog_51_method_1_code_21 rfl rfl ?_
  refine go_iloadN C (pc' := 23) dc_prog_51_method_1_code_22 rfl rfl ?_
  refine go_icmpNo C (pc' := 26) dc_prog_51_method_1_code_23 (by decide) rfl ?_
  refine go_aloadN C (pc' := 27) dc_prog_51_method_1_code_26 rfl rfl rfl ?_
  refine go_getF C (pc' := 30) (host := "") (Or.inl (wd_12 hw)) Via.refl ((((((((((((F2.ext E3).other W4 (Or.inr (slot_ne (a0 := a0) (Or.inr (wd_13 hw)) (Or.inr (wd_16 hw)) (by decide) (t := (.array (.array .int))) (t' := (.array .int)) (by decide) (by decide)))).ext E5).other W6 (Or.inl ne_b_b1)).ext E7).other W8 (Or.inl ne_b_b1)).ext E9).other W10 (Or.inl ne_b_b1)).ext E11).other W12 (Or.inl ne_b_b1)).ext E13).other W14 (Or.inl ne_b_b1)) dc_prog_51_method_1_code_27 rfl ?_
  refine go_iloadN C (pc' := 31) dc_prog_51_method_1_code_30 rfl rfl ?_
  refine go_bipush C (pc' := 33) dc_prog_51_method_1_code_31 (z := (16 : Int32)) (by decide) rfl ?_
  refine go_newPE C (pc' := 35) (len := 16) (ty := .int) rfl (ad := "[I") rfl (wd_14 hw) dc_prog_51_method_1_code_33 rfl (by decide) (by decide) (by decide) (by decide) (by decide) ?_
  intro h15 b15 k15 g15 n15 E15 A15 X15
  have sz_b15 := Nat.le_trans (Nat.le_trans (Nat.le_trans (Nat.le_trans (Nat.le_trans (Nat.le_trans (Nat.le_trans (Nat.le_trans (Nat.le_trans (Nat.le_trans (Nat.le_trans (Nat.le_trans (Nat.le_trans (Nat.le_trans (Nat.le_trans (Nat.le_refl _) E1.1) (Nat.le_of_eq W2.size.symm)) E3.1) (Nat.le_of_eq W4.size.symm)) E5.1) (Nat.le_of_eq W6.size.symm)) E7.1) (Nat.le_of_eq W8.size.symm)) E9.1) (Nat.le_of_eq W10.size.symm)) E11.1) (Nat.le_of_eq W12.size.symm)) E13.1) (Nat.le_of_eq W14.size.symm)) (Nat.le_of_eq g15.symm)
  have ne_b_b15 : b ≠ b15 := Nat.ne_of_lt (by rw [g15]; exact ((((((((((((((E_b.ext E1).wr W2).ext E3).wr W4).ext E5).wr W6).ext E7).wr W8).ext E9).wr W10).ext E11).wr W12).ext E13).wr W14).lt)
  have ne_b1_b15 : b1 ≠ b15 := Nat.ne_of_lt (by rw [g15]; exact A14.lt)
  have ne_b3_b15 : b3 ≠ b15 := Nat.ne_of_lt (by rw [g15]; exact (((((((((((A3.other W4 (Ne.symm ne_b_b3)).ext E5).other W6 (Ne.symm ne_b1_b3)).ext E7).other W8 (Ne.symm ne_b1_b3)).ext E9).other W10 (Ne.symm ne_b1_b3)).ext E11).other W12 (Ne.symm ne_b1_b3)).ext E13).other W14 (Ne.symm ne_b1_b3)).lt)
  have ne_b5_b15 : b5 ≠ b15 := Nat.ne_of_lt (by rw [g15]; exact (((((((((A5.other W6 (Ne.symm ne_b1_b5)).ext E7).other W8 (Ne.symm ne_b1_b5)).ext E9).other W10 (Ne.symm ne_b1_b5)).ext E11).other W12 (Ne.symm ne_b1_b5)).ext E13).other W14 (Ne.symm ne_b1_b5)).lt)
  have ne_b7_b15 : b7 ≠ b15 := Nat.ne_of_lt (by rw [g15]; exact (((((((A7.other W8 (Ne.symm ne_b1_b7)).ext E9).other W10 (Ne.symm ne_b1_b7)).ext E11).other W12 (Ne.symm ne_b1_b7)).ext E13).other W14 (Ne.symm ne_b1_b7)).lt)
  have ne_b9_b15 : b9 ≠ b15 := Nat.ne_of_lt (by rw [g15]; exact (((((A9.other W10 (Ne.symm ne_b1_b9)).ext E11).other W12 (Ne.symm ne_b1_b9)).ext E13).other W14 (Ne.symm ne_b1_b9)).lt)
  have ne_b11_b15 : b11 ≠ b15 := Nat.ne_of_lt (by rw [g15]; exact (((A11.other W12 (Ne.symm ne_b1_b11)).ext E13).other W14 (Ne.symm ne_b1_b11)).lt)
  have ne_b13_b15 : b13 ≠ b15 := Nat.ne_of_lt (by rw [g15]; exact (A13.other W14 (Ne.symm ne_b1_b13)).lt)
  refine go_aaset C (pc' := 36) (A14.ext E15) V1 (Ins.self X15) (by decide) (i := 5) (by decide) (by simp) (vs' := [(.ref b5), (.ref b7), (.ref b9), (.ref b11), (.ref b13), (.ref b15), .null, .null]) rfl dc_prog_51_method_1_code_35 rfl n1 ?_
  intro h16 W16 A16
  refine go_iinc C (pc' := 39) dc_prog_51_method_1_code_36 rfl (Ls' := #[(.val (.ref b)), (.val (.int (8 : Int32))), (.val (.int ((5 : Int32) + (1 : Int32))))]) rfl rfl ?_
  refine go_ls (Ls' := #[(.val (.ref b)), (.val (.int (8 : Int32))), (.val (.int (6 : Int32)))]) (by rw [show ((5 : Int32) + (1 : Int32)) = (6 : Int32) from by decide]) ?_
  refine go_goto C (pc' := 21) dc_prog_51_method_1_code_39 (by decide) (by decide) ?_
  refine go_iloadN C (pc' := 22) dc_prog_51_method_1_code_21 rfl rfl ?_
  refine go_iloadN C (pc' := 23) dc_prog_51_method_1_code_22 rfl rfl ?_
  refine go_icmpNo C (pc' := 26) dc_prog_51_method_1_code_23 (by decide) rfl ?_
  refine go_aloadN C (pc' := 27) dc_prog_51_method_1_code_26 rfl rfl rfl ?_
  refine go_getF C (pc' := 30) (host := "") (Or.inl (wd_12 hw)) Via.refl ((((((((((((((F2.ext E3).other W4 (Or.inr (slot_ne (a0 := a0) (Or.inr (wd_13 hw)) (Or.inr (wd_16 hw)) (by decide) (t := (.array (.array .int))) (t' := (.array .int)) (by decide) (by decide)))).ext E5).other W6 (Or.inl ne_b_b1)).ext E7).other W8 (Or.inl ne_b_b1)).ext E9).other W10 (Or.inl ne_b_b1)).ext E11).other W12 (Or.inl ne_b_b1)).ext E13).other W14 (Or.inl ne_b_b1)).ext E15).other W16 (Or.inl ne_b_b1)) dc_prog_51_method_1_code_27 rfl ?_
  refine go_iloadN C (pc' := 31) dc_prog_51_method_1_code_30 rfl rfl ?_
  refine go_bipush C (pc' := 33) dc_prog_51_method_1_code_31 (z := (16 : Int32)) (by decide) rfl ?_
  refine go_newPE C (pc' := 35) (len := 16) (ty := .int) rfl (ad := "[I") rfl (wd_14 hw) dc_prog_51_method_1_code_33 rfl (by decide) (by decide) (by decide) (by decide) (by decide) ?_
  intro h17 b17 k17 g17 n17 E17 A17 X17
  have sz_b17 := Nat.le_trans (Nat.le_trans (Nat.le_trans (Nat.le_trans (Nat.le_trans (Nat.le_trans (Nat.le_trans (Nat.le_trans (Nat.le_trans (Nat.le_trans (Nat.le_trans (Nat.le_trans (Nat.le_trans (Nat.le_trans (Nat.le_trans (Nat.le_trans (Nat.le_trans (Nat.le_refl _) E1.1) (Nat.le_of_eq W2.size.symm)) E3.1) (Nat.le_of_eq W4.size.symm)) E5.1) (Nat.le_of_eq W6.size.symm)) E7.1) (Nat.le_of_eq W8.size.symm)) E9.1) (Nat.le_of_eq W10.size.symm)) E11.1) (Nat.le_of_eq W12.size.symm)) E13.1) (Nat.le_of_eq W14.size.symm)) E15.1) (Nat.le_of_eq W16.size.symm)) (Nat.le_of_eq g17.symm)
  have ne_b_b17 : b ≠ b17 := Nat.ne_of_lt (by rw [g17]; exact ((((((((((((((((E_b.ext E1).wr W2).ext E3).wr W4).ext E5).wr W6).ext E7).wr W8).ext E9).wr W10).ext E11).wr W12).ext E13).wr W14).ext E15).wr W16).lt)
  have ne_b1_b17 : b1 ≠ b17 := Nat.ne_of_lt (by rw [g17]; exact A16.lt)
  have ne_b3_b17 : b3 ≠ b17 := Nat.ne_of_lt (by rw [g17]; exact (((((((((((((A3.other W4 (Ne.symm ne_b_b3)).ext E5).other W6 (Ne.symm ne_b1_b3)).ext E7).other W8 (Ne.symm ne_b1_b3)).ext E9).other W10 (Ne.symm ne_b1_b3)).ext E11).other W12 (Ne.symm ne_b1_b3)).ext E13).other W14 (Ne.symm ne_b1_b3)).ext E15).other W16 (Ne.symm ne_b1_b3)).lt)
  have ne_b5_b17 : b5 ≠ b17 := Nat.ne_of_lt (by rw [g17]; exact (((((((((((A5.other W6 (Ne.symm ne_b1_b5)).ext E7).other W8 (Ne.symm ne_b1_b5)).ext E9).other W10 (Ne.symm ne_b1_b5)).ext E11).other W12 (Ne.symm ne_b1_b5)).ext E13).other W14 (Ne.symm ne_b1_b5)).ext E15).other W16 (Ne.symm ne_b1_b5)).lt)
  have ne_b7_b17 : b7 ≠ b17 := Nat.ne_of_lt (by rw [g17]; exact (((((((((A7.other W8 (Ne.symm ne_b1_b7)).ext E9).other W10 (Ne.symm ne_b1_b7)).ext E11).other W12 (Ne.symm ne_b1_b7)).ext E13).other W14 (Ne.symm ne_b1_b7)).ext E15).other W16 (Ne.symm ne_b1_b7)).lt)
  have ne_b9_b17 : b9 ≠ b17 := Nat.ne_of_lt (by rw [g17]; exact (((((((A9.other W10 (Ne.symm ne_b1_b9)).ext E11).other W12 (Ne.symm ne_b1_b9)).ext E13).other W14 (Ne.symm ne_b1_b9)).ext E15).other W16 (Ne.symm ne_b1_b9)).lt)
  have ne_b11_b17 : b11 ≠ b17 := Nat.ne_of_lt (by rw [g17]; exact (((((A11.other W12 (Ne.symm ne_b1_b11)).ext E13).other W14 (Ne.symm ne_b1_b11)).ext E15).other W16 (Ne.symm ne_b1_b11)).lt)
  have ne_b13_b17 : b13 ≠ b17 := Nat.ne_of_lt (by rw [g17]; exact (((A13.other W14 (Ne.symm ne_b1_b13)).ext E15).other W16 (Ne.symm ne_b1_b13)).lt)
  have ne_b15_b17 : b15 ≠ b17 := Nat.ne_of_lt (by rw [g17]; exact (A15.other W16 (Ne.symm ne_b1_b15)).lt)
  refine go_aaset C (pc' := 36) (A16.ext E17) V1 (Ins.self X17) (by decide) (i := 6) (by decide) (by simp) (vs' := [(.ref b5), (.ref b7), (.ref b9), (.ref b11), (.ref b13), (.ref b15), (.ref b17), .null]) rfl dc_prog_51_method_1_code_35 rfl n1 ?_
  intro h18 W18 A18
  refine go_iinc C (pc' := 39) dc_prog_51_method_1_code_36 rfl (Ls' := #[(.val (.ref b)), (.val (.int (8 : Int32))), (.val (.int ((6 : Int32) + (1 : Int32))))]) rfl rfl ?_
  refine go_ls (Ls' := #[(.val (.ref b)), (.val (.int (8 : Int32))), (.val (.int (7 : Int32)))]) (by rw [show ((6 : Int32) + (1 : Int32)) = (7 : Int32) from by decide]) ?_
  refine go_goto C (pc' := 21) dc_prog_51_method_1_code_39 (by decide) (by decide) ?_
  refine go_iloadN C (pc' := 22) dc_prog_51_method_1_code_21 rfl rfl ?_
  refine go_iloadN C (pc' := 23) dc_prog_51_method_1_code_22 rfl rfl ?_
  refine go_icmpNo C (pc' := 26) dc_prog_51_method_1_code_23 (by decide) rfl ?_
  refine go_aloadN C (pc' := 27) dc_prog_51_method_1_code_26 rfl rfl rfl ?_
  refine go_getF C (pc' := 30) (host := "") (Or.inl (wd_12 hw)) Via.refl ((((((((((((((((F2.ext E3).other W4 (Or.inr (slot_ne (a0 := a0) (Or.inr (wd_13 hw)) (Or.inr (wd_16 hw)) (by decide) (t := (.array (.array .int))) (t' := (.array .int)) (by decide) (by decide)))).ext E5).other W6 (Or.inl ne_b_b1)).ext E7).other W8 (Or.inl ne_b_b1)).ext E9).other W10 (Or.inl ne_b_b1)).ext E11).other W12 (Or.inl ne_b_b1)).ext E13).other W14 (Or.inl ne_b_b1)).ext E15).other W16 (Or.inl ne_b_b1)).ext E17).other W18 (Or.inl ne_b_b1)) dc_prog_51_method_1_code_27 rfl ?_
  refine go_iloadN C (pc' := 31) dc_prog_51_method_1_code_30 rfl rfl ?_
  refine go_bipush C (pc' := 33) dc_prog_51_method_1_code_31 (z := (16 : Int32)) (by decide) rfl ?_
  refine go_newPE C (pc' := 35) (len := 16) (ty := .int) rfl (ad := "[I") rfl (wd_14 hw) dc_prog_51_method_1_code_33 rfl (by decide) (by decide) (by decide) (by decide) (by decide) ?_
  intro h19 b19 k19 g19 n19 E19 A19 X19
  have sz_b19 := Nat.le_trans (Nat.le_trans (Nat.le_trans (Nat.le_trans (Nat.le_trans (Nat.le_trans (Nat.le_trans (Nat.le_trans (Nat.le_trans (Nat.le_trans (Nat.le_trans (Nat.le_trans (Nat.le_trans (Nat.le_trans (Nat.le_trans (Nat.le_trans (Nat.le_trans (Nat.le_trans (Nat.le_trans (Nat.le_refl _) E1.1) (Nat.le_of_eq W2.size.symm)) E3.1) (Nat.le_of_eq W4.size.symm)) E5.1) (Nat.le_of_eq W6.size.symm)) E7.1) (Nat.le_of_eq W8.size.symm)) E9.1) (Nat.le_of_eq W10.size.symm)) E11.1) (Nat.le_of_eq W12.size.symm)) E13.1) (Nat.le_of_eq W14.size.symm)) E15.1) (Nat.le_of_eq W16.size.symm)) E17.1) (Nat.le_of_eq W18.size.symm)) (Nat.le_of_eq g19.symm)
  have ne_b_b19 : b ≠ b19 := Nat.ne_of_lt (by rw [g19]; exact ((((((((((((((((((E_b.ext E1).wr W2).ext E3).wr W4).ext E5).wr W6).ext E7).wr W8).ext E9).wr W10).ext E11).wr W12).ext E13).wr W14).ext E15).wr W16).ext E17).wr W18).lt)
  have ne_b1_b19 : b1 ≠ b19 := Nat.ne_of_lt (by rw [g19]; exact A18.lt)
  have ne_b3_b19 : b3 ≠ b19 := Nat.ne_of_lt (by rw [g19]; exact (((((((((((((((A3.other W4 (Ne.symm ne_b_b3)).ext E5).other W6 (Ne.symm ne_b1_b3)).ext E7).other W8 (Ne.symm ne_b1_b3)).ext E9).other W10 (Ne.symm ne_b1_b3)).ext E11).other W12 (Ne.symm ne_b1_b3)).ext E13).other W14 (Ne.symm ne_b1_b3)).ext E15).other W16 (Ne.symm ne_b1_b3)).ext E17).other W18 (Ne.symm ne_b1_b3)).lt)
  have ne_b5_b19 : b5 ≠ b19 := Nat.ne_of_lt (by rw [g19]; exact (((((((((((((A5.other W6 (Ne.symm ne_b1_b5)).ext E7).other W8 (Ne.symm ne_b1_b5)).ext E9).other W10 (Ne.symm ne_b1_b5)).ext E11).other W12 (Ne.symm ne_b1_b5)).ext E13).other W14 (Ne.symm ne_b1_b5)).ext E15).other W16 (Ne.symm ne_b1_b5)).ext E17).other W18 (Ne.symm ne_b1_b5)).lt)
  have ne_b7_b19 : b7 ≠ b19 := Nat.ne_of_lt (by rw [g19]; exact (((((((((((A7.other W8 (Ne.symm ne_b1_b7)).ext E9).other W10 (Ne.symm ne_b1_b7)).ext E11).other W12 (Ne.symm ne_b1_b7)).ext E13).other W14 (Ne.symm ne_b1_b7)).ext E15).other W16 (Ne.symm ne_b1_b7)).ext E17).other W18 (Ne.symm ne_b1_b7)).lt)
  have ne_b9_b19 : b9 ≠ b19 := Nat.ne_of_lt (by rw [g19]; exact (((((((((A9.other W10 (Ne.symm ne_b1_b9)).ext E11).other W12 (Ne.symm ne_b1_b9)).ext E13).other W14 (Ne.symm ne_b1_b9)).ext E15).other W16 (Ne.symm ne_b1_b9)).ext E17).other W18 (Ne.symm ne_b1_b9)).lt)
  have ne_b11_b19 : b11 ≠ b19 := Nat.ne_of_lt (by rw [g19]; exact (((((((A11.other W12 (Ne.symm ne_b1_b11)).ext E13).other W14 (Ne.symm ne_b1_b11)).ext E15).other W16 (Ne.symm ne_b1_b11)).ext E17).other W18 (Ne.symm ne_b1_b11)).lt)
  have ne_b13_b19 : b13 ≠ b19 := Nat.ne_of_lt (by rw [g19]; exact (((((A13.other W14 (Ne.symm ne_b1_b13)).ext E15).other W16 (Ne.symm ne_b1_b13)).ext E17).other W18 (Ne.symm ne_b1_b13)).lt)
  have ne_b15_b19 : b15 ≠ b19 := Nat.ne_of_lt (by rw [g19]; exact (((A15.other W16 (Ne.symm ne_b1_b15)).ext E17).other W18 (Ne.symm ne_b1_b15)).lt)
  have ne_b17_b19 : b17 ≠ b19 := Nat.ne_of_lt (by rw [g19]; exact (A17.other W18 (Ne.symm ne_b1_b17)).lt)
  refine go_aaset C (pc' := 36) (A18.ext E19) V1 (Ins.self X19) (by decide) (i := 7) (by decide) (by simp) (vs' := [(.ref b5), (.ref b7), (.ref b9), (.ref b11), (.ref b13), (.ref b15), (.ref b17), (.ref b19)]) rfl dc_prog_51_method_1_code_35 rfl n1 ?_
  intro h20 W20 A20
  refine go_iinc C (pc' := 39) dc_prog_51_method_1_code_36 rfl (Ls' := #[(.val (.ref b)), (.val (.int (8 : Int32))), (.val (.int ((7 : Int32) + (1 : Int32))))]) rfl rfl ?_
  refine go_ls (Ls' := #[(.val (.ref b)), (.val (.int (8 : Int32))), (.val (.int (8 : Int32)))]) (by rw [show ((7 : Int32) + (1 : Int32)) = (8 : Int32) from by decide]) ?_
  refine go_goto C (pc' := 21) dc_prog_51_method_1_code_39 (by decide) (by decide) ?_
  refine go_iloadN C (pc' := 22) dc_prog_51_method_1_code_21 rfl rfl ?_
  refine go_iloadN C (pc' := 23) dc_prog_51_method_1_code_22 rfl rfl ?_
  refine go_icmpYes C (pc' := 42) dc_prog_51_method_1_code_23 (by decide) (by decide) (by decide) ?_
  exact go_ret0 C dc_prog_51_method_1_code_42 (by decide) (by decide) ⟨rfl, ⟨b1, b3, k1, _, (fun i => ([b5, b7, b9, b11, b13, b15, b17, b19] : List Addr).getD i 0), (fun i => ([k5, k7, k9, k11, k13, k15, k17, k19] : List ClassId).getD i 0), _, _, (fun _ => List.replicate 16 (.int 0)), ((((((((((((((((((((E_b.ext E1).wr W2).ext E3).wr W4).ext E5).wr W6).ext E7).wr W8).ext E9).wr W10).ext E11).wr W12).ext E13).wr W14).ext E15).wr W16).ext E17).wr W18).ext E19).wr W20), ((((((((((((((((((F2.ext E3).other W4 (Or.inr (slot_ne (a0 := a0) (Or.inr (wd_13 hw)) (Or.inr (wd_16 hw)) (by decide) (t := (.array (.array .int))) (t' := (.array .int)) (by decide) (by decide)))).ext E5).other W6 (Or.inl ne_b_b1)).ext E7).other W8 (Or.inl ne_b_b1)).ext E9).other W10 (Or.inl ne_b_b1)).ext E11).other W12 (Or.inl ne_b_b1)).ext E13).other W14 (Or.inl ne_b_b1)).ext E15).other W16 (Or.inl ne_b_b1)).ext E17).other W18 (Or.inl ne_b_b1)).ext E19).other W20 (Or.inl ne_b_b1)), ((((((((((((((((F4.ext E5).other W6 (Or.inl ne_b_b1)).ext E7).other W8 (Or.inl ne_b_b1)).ext E9).other W10 (Or.inl ne_b_b1)).ext E11).other W12 (Or.inl ne_b_b1)).ext E13).other W14 (Or.inl ne_b_b1)).ext E15).other W16 (Or.inl ne_b_b1)).ext E17).other W18 (Or.inl ne_b_b1)).ext E19).other W20 (Or.inl ne_b_b1)), ((((((((((((((((((((F_b_lowest.ext E1).other W2 (Or.inr (slot_ne (a0 := a0) (Or.inl (wd_36 hw)) (Or.inr (wd_13 hw)) (by decide) (t := .long) (t' := (.array (.array .int))) (by decide) (by decide)))).ext E3).other W4 (Or.inr (slot_ne (a0 := a0) (Or.inl (wd_36 hw)) (Or.inr (wd_16 hw)) (by decide) (t := .long) (t' := (.array .int)) (by decide) (by decide)))).ext E5).other W6 (Or.inl ne_b_b1)).ext E7).other W8 (Or.inl ne_b_b1)).ext E9).other W10 (Or.inl ne_b_b1)).ext E11).other W12 (Or.inl ne_b_b1)).ext E13).other W14 (Or.inl ne_b_b1)).ext E15).other W16 (Or.inl ne_b_b1)).ext E17).other W18 (Or.inl ne_b_b1)).ext E19).other W20 (Or.inl ne_b_b1)), ((((((((((((((((((((F_b_size.ext E1).other W2 (Or.inr (slot_ne (a0 := a0) (Or.inl (wd_24 hw)) (Or.inr (wd_13 hw)) (by decide) (t := .long) (t' := (.array (.array .int))) (by decide) (by decide)))).ext E3).other W4 (Or.inr (slot_ne (a0 := a0) (Or.inl (wd_24 hw)) (Or.inr (wd_16 hw)) (by decide) (t := .long) (t' := (.array .int)) (by decide) (by decide)))).ext E5).other W6 (Or.inl ne_b_b1)).ext E7).other W8 (Or.inl ne_b_b1)).ext E9).other W10 (Or.inl ne_b_b1)).ext E11).other W12 (Or.inl ne_b_b1)).ext E13).other W14 (Or.inl ne_b_b1)).ext E15).other W16 (Or.inl ne_b_b1)).ext E17).other W18 (Or.inl ne_b_b1)).ext E19).other W20 (Or.inl ne_b_b1)), A20, rfl, (fun i hi => by match i, hi with | 0, _ => rfl | 1, _ => rfl | 2, _ => rfl | 3, _ => rfl | 4, _ => rfl | 5, _ => rfl | 6, _ => rfl | 7, _ => rfl), (((((((((((((((((A3.other W4 (Ne.symm ne_b_b3)).ext E5).other W6 (Ne.symm ne_b1_b3)).ext E7).other W8 (Ne.symm ne_b1_b3)).ext E9).other W10 (Ne.symm ne_b1_b3)).ext E11).other W12 (Ne.symm ne_b1_b3)).ext E13).other W14 (Ne.symm ne_b1_b3)).ext E15).other W16 (Ne.symm ne_b1_b3)).ext E17).other W18 (Ne.symm ne_b1_b3)).ext E19).other W20 (Ne.symm ne_b1_b3)), rfl, (fun i hi => by match i, hi with | 0, _ => rfl | 1, _ => rfl | 2, _ => rfl | 3, _ => rfl | 4, _ => rfl | 5, _ => rfl | 6, _ => rfl | 7, _ => rfl), (fun i hi => by match i, hi with | 0, _ => exact (((((((((((((((A5.other W6 (Ne.symm ne_b1_b5)).ext E7).other W8 (Ne.symm ne_b1_b5)).ext E9).other W10 (Ne.symm ne_b1_b5)).ext E11).other W12 (Ne.symm ne_b1_b5)).ext E13).other W14 (Ne.symm ne_b1_b5)).ext E15).other W16 (Ne.symm ne_b1_b5)).ext E17).other W18 (Ne.symm ne_b1_b5)).ext E19).other W20 (Ne.symm ne_b1_b5)) | 1, _ => exact (((((((((((((A7.other W8 (Ne.symm ne_b1_b7)).ext E9).other W10 (Ne.symm ne_b1_b7)).ext E11).other W12 (Ne.symm ne_b1_b7)).ext E13).other W14 (Ne.symm ne_b1_b7)).ext E15).other W16 (Ne.symm ne_b1_b7)).ext E17).other W18 (Ne.symm ne_b1_b7)).ext E19).other W20 (Ne.symm ne_b1_b7)) | 2, _ => exact (((((((((((A9.other W10 (Ne.symm ne_b1_b9)).ext E11).other W12 (Ne.symm ne_b1_b9)).ext E13).other W14 (Ne.symm ne_b1_b9)).ext E15).other W16 (Ne.symm ne_b1_b9)).ext E17).other W18 (Ne.symm ne_b1_b9)).ext E19).other W20 (Ne.symm ne_b1_b9)) | 3, _ => exact (((((((((A11.other W12 (Ne.symm ne_b1_b11)).ext E13).other W14 (Ne.symm ne_b1_b11)).ext E15).other W16 (Ne.symm ne_b1_b11)).ext E17).other W18 (Ne.symm ne_b1_b11)).ext E19).other W20 (Ne.symm ne_b1_b11)) | 4, _ => exact (((((((A13.other W14 (Ne.symm ne_b1_b13)).ext E15).other W16 (Ne.symm ne_b1_b13)).ext E17).other W18 (Ne.symm ne_b1_b13)).ext E19).other W20 (Ne.symm ne_b1_b13)) | 5, _ => exact (((((A15.other W16 (Ne.symm ne_b1_b15)).ext E17).other W18 (Ne.symm ne_b1_b15)).ext E19).other W20 (Ne.symm ne_b1_b15)) | 6, _ => exact (((A17.other W18 (Ne.symm ne_b1_b17)).ext E19).other W20 (Ne.symm ne_b1_b17)) | 7, _ => exact (A19.other W20 (Ne.symm ne_b1_b19))), (fun i hi => rfl), (fun i hi j x hx => by simp at hx), ⟨(Ne.symm ne_b_b1), (Ne.symm ne_b_b3), (Ne.symm ne_b1_b3), (fun i hi => by match i, hi with | 0, _ => exact ⟨(Ne.symm ne_b_b5), (Ne.symm ne_b1_b5), (Ne.symm ne_b3_b5)⟩ | 1, _ => exact ⟨(Ne.symm ne_b_b7), (Ne.symm ne_b1_b7), (Ne.symm ne_b3_b7)⟩ | 2, _ => exact ⟨(Ne.symm ne_b_b9), (Ne.symm ne_b1_b9), (Ne.symm ne_b3_b9)⟩ | 3, _ => exact ⟨(Ne.symm ne_b_b11), (Ne.symm ne_b1_b11), (Ne.symm ne_b3_b11)⟩ | 4, _ => exact ⟨(Ne.symm ne_b_b13), (Ne.symm ne_b1_b13), (Ne.symm ne_b3_b13)⟩ | 5, _ => exact ⟨(Ne.symm ne_b_b15), (Ne.symm ne_b1_b15), (Ne.symm ne_b3_b15)⟩ | 6, _ => exact ⟨(Ne.symm ne_b_b17), (Ne.symm ne_b1_b17), (Ne.symm ne_b3_b17)⟩ | 7, _ => exact ⟨(Ne.symm ne_b_b19), (Ne.symm ne_b1_b19), (Ne.symm ne_b3_b19)⟩), (fun i j hi hj hij => by match i, hi, j, hj with | 0, _, 0, _ => exact absurd rfl hij | 0, _, 1, _ => exact ne_b5_b7 | 0, _, 2, _ => exact ne_b5_b9 | 0, _, 3, _ => exact ne_b5_b11 | 0, _, 4, _ => exact ne_b5_b13 | 0, _, 5, _ => exact ne_b5_b15 | 0, _, 6, _ => exact ne_b5_b17 | 0, _, 7, _ => exact ne_b5_b19 | 1, _, 0, _ => exact (Ne.symm ne_b5_b7) | 1, _, 1, _ => exact absurd rfl hij | 1, _, 2, _ => exact ne_b7_b9 | 1, _, 3, _ => exact ne_b7_b11 | 1, _, 4, _ => exact ne_b7_b13 | 1, _, 5, _ => exact ne_b7_b15 | 1, _, 6, _ => exact ne_b7_b17 | 1, _, 7, _ => exact ne_b7_b19 | 2, _, 0, _ => exact (Ne.symm ne_b5_b9) | 2, _, 1, _ => exact (Ne.symm ne_b7_b9) | 2, _, 2, _ => exact absurd rfl hij | 2, _, 3, _ => exact ne_b9_b11 | 2, _, 4, _ => exact ne_b9_b13 | 2, _, 5, _ => exact ne_b9_b15 | 2, _, 6, _ => exact ne_b9_b17 | 2, _, 7, _ => exact ne_b9_b19 | 3, _, 0, _ => exact (Ne.symm ne_b5_b11) | 3, _, 1, _ => exact (Ne.symm ne_b7_b11) | 3, _, 2, _ => exact (Ne.symm ne_b9_b11) | 3, _, 3, _ => exact absurd rfl hij | 3, _, 4, _ => exact ne_b11_b13 | 3, _, 5, _ => exact ne_b11_b15 | 3, _, 6, _ => exact ne_b11_b17 | 3, _, 7, _ => exact ne_b11_b19 | 4, _, 0, _ => exact (Ne.symm ne_b5_b13) | 4, _, 1, _ => exact (Ne.symm ne_b7_b13) | 4, _, 2, _ => exact (Ne.symm ne_b9_b13) | 4, _, 3, _ => exact (Ne.symm ne_b11_b13) | 4, _, 4, _ => exact absurd rfl hij | 4, _, 5, _ => exact ne_b13_b15 | 4, _, 6, _ => exact ne_b13_b17 | 4, _, 7, _ => exact ne_b13_b19 | 5, _, 0, _ => exact (Ne.symm ne_b5_b15) | 5, _, 1, _ => exact (Ne.symm ne_b7_b15) | 5, _, 2, _ => exact (Ne.symm ne_b9_b15) | 5, _, 3, _ => exact (Ne.symm ne_b11_b15) | 5, _, 4, _ => exact (Ne.symm ne_b13_b15) | 5, _, 5, _ => exact absurd rfl hij | 5, _, 6, _ => exact ne_b15_b17 | 5, _, 7, _ => exact ne_b15_b19 | 6, _, 0, _ => exact (Ne.symm ne_b5_b17) | 6, _, 1, _ => exact (Ne.symm ne_b7_b17) | 6, _, 2, _ => exact (Ne.symm ne_b9_b17) | 6, _, 3, _ => exact (Ne.symm ne_b11_b17) | 6, _, 4, _ => exact (Ne.symm ne_b13_b17) | 6, _, 5, _ => exact (Ne.symm ne_b15_b17) | 6, _, 6, _ => exact absurd rfl hij | 6, _, 7, _ => exact ne_b17_b19 | 7, _, 0, _ => exact (Ne.symm ne_b5_b19) | 7, _, 1, _ => exact (Ne.symm ne_b7_b19) | 7, _, 2, _ => exact (Ne.symm ne_b9_b19) | 7, _, 3, _ => exact (Ne.symm ne_b11_b19) | 7, _, 4, _ => exact (Ne.symm ne_b13_b19) | 7, _, 5, _ => exact (Ne.symm ne_b15_b19) | 7, _, 6, _ => exact (Ne.symm ne_b17_b19) | 7, _, 7, _ => exact absurd rfl hij)⟩, nb, n1, n3, (fun i hi => by match i, hi with | 0, _ => exact n5 | 1, _ => exact n7 | 2, _ => exact n9 | 3, _ => exact n11 | 4, _ => exact n13 | 5, _ => exact n15 | 6, _ => exact n17 | 7, _ => exact n19)⟩⟩
set_option maxRecDepth 65536 in
set_option maxHeartbeats 4000000 in
theorem init_7 (l : Launch) (Z : State) (a0 : Array Value) (hw : ∀ d ∈ tables_1, d.before a0 Z = true) (n0 : Nat) (h : Heap) (O : Old Z n0 h) (b : Addr) (E_b : Exa Z h b "com/example/invariant/invariant/check/BucketQueue") (F_b_buckets : Fld Z h b "com/example/invariant/invariant/check/BucketQueue" "buckets" "[[I" .null) (F_b_counts : Fld Z h b "com/example/invariant/invariant/check/BucketQueue" "counts" "[I" .null) (F_b_lowest : Fld Z h b "com/example/invariant/invariant/check/BucketQueue" "lowest" "J" (.long (0 : Int64))) (F_b_size : Fld Z h b "com/example/invariant/invariant/check/BucketQueue" "size" "J" (.long (0 : Int64))) (nb : n0 ≤ b) :
    Met l Z n0 (⟨"com/example/invariant/invariant/check/BucketQueue", "<init>", "(I)V"⟩ : MethodName) prog_51_method_1_code 3 none [] ({ frames := 1, cells := 10, slots := 144, locals := 12 } : Room) #[(.ref b), (.int (7 : Int32))] h (fun v h' => v = none ∧ QAt Z h' n0 b 7 (fun _ => []) 0 0) := by
  refine met_of (Ls := #[(.val (.ref b)), (.val (.int (7 : Int32))), .unset]) (by decide +kernel) (fun m => by first | (simp [entryFrame, mkF, argsToLocals, Value.category]; done) | rfl) O ?_
  intro p e s m below meth cd C
  refine go_aloadN C (pc' := 1) dc_prog_51_method_1_code_0 rfl rfl rfl ?_
  refine go_initO C (pc' := 4) (wd_7 hw) (wd_8 hw) (wd_9 hw) rfl dc_prog_51_method_1_code_1 rfl (by decide) (by decide) ?_
  refine go_aloadN C (pc' := 5) dc_prog_51_method_1_code_4 rfl rfl rfl ?_
  refine go_iloadN C (pc' := 6) dc_prog_51_method_1_code_5 rfl rfl ?_
  refine go_newAA C (pc' := 9) (len := 7) (ty := .int) rfl (ad := "[[I") rfl (wd_10 hw) (wd_11 hw) dc_prog_51_method_1_code_6 rfl (by decide) (by decide) (by decide) (by decide) (by decide) ?_
  intro h1 b1 k1 g1 n1 E1 A1 V1 X1
  have sz_b1 := Nat.le_trans (Nat.le_refl _) (Nat.le_of_eq g1.symm)
  have ne_b_b1 : b ≠ b1 := Nat.ne_of_lt (by rw [g1]; exact E_b.lt)
  refine go_putF C (pc' := 12) (host := "") (Or.inl (wd_12 hw)) Via.refl (F_b_buckets.ext E1) (E_b.ext E1) (Or.inr ⟨(wd_13 hw), rfl, rfl⟩) (wd_2 hw) (ty := (.array (.array .int))) (by decide) rfl rfl dc_prog_51_method_1_code_9 rfl nb ?_
  intro h2 W2 F2
  refine go_aloadN C (pc' := 13) dc_prog_51_method_1_code_12 rfl rfl rfl ?_
  refine go_iloadN C (pc' := 14) dc_prog_51_method_1_code_13 rfl rfl ?_
  refine go_newPA C (pc' := 16) (len := 7) (ty := .int) rfl (wd_14 hw) dc_prog_51_method_1_code_14 rfl (by decide) (by decide) (by decide) (by decide) (by decide) ?_
  intro h3 b3 k3 g3 n3 E3 A3
  have sz_b3 := Nat.le_trans (Nat.le_trans (Nat.le_trans (Nat.le_refl _) E1.1) (Nat.le_of_eq W2.size.symm)) (Nat.le_of_eq g3.symm)
  have ne_b_b3 : b ≠ b3 := Nat.ne_of_lt (by rw [g3]; exact ((E_b.ext E1).wr W2).lt)
  have ne_b1_b3 : b1 ≠ b3 := Nat.ne_of_lt (by rw [g3]; exact (A1.other W2 (Ne.symm ne_b_b1)).lt)
  refine go_putF C (pc' := 19) (host := "") (Or.inl (wd_15 hw)) Via.refl (((F_b_counts.ext E1).other W2 (Or.inr (slot_ne (a0 := a0) (Or.inr (wd_16 hw)) (Or.inr (wd_13 hw)) (by decide) (t := (.array .int)) (t' := (.array (.array .int))) (by decide) (by decide)))).ext E3) (((E_b.ext E1).wr W2).ext E3) (Or.inr ⟨(wd_16 hw), rfl, rfl⟩) (wd_2 hw) (ty := (.array .int)) (by decide) rfl rfl dc_prog_51_method_1_code_16 rfl nb ?_
  intro h4 W4 F4
  refine go_iconst C (pc' := 20) dc_prog_51_method_1_code_19 (z := (0 : Int32)) (by decide) rfl ?_
  refine go_istoreN C (pc' := 21) dc_prog_51_method_1_code_20 (Ls' := #[(.val (.ref b)), (.val (.int (7 : Int32))), (.val (.int (0 : Int32)))]) rfl rfl ?_
  refine go_iloadN C (pc' := 22) dc_prog_51_method_1_code_21 rfl rfl ?_
  refine go_iloadN C (pc' := 23) dc_prog_51_method_1_code_22 rfl rfl ?_
  refine go_icmpNo C (pc' := 26) dc_prog_51_method_1_code_23 (by decide) rfl ?_
  refine go_aloadN C (pc' := 27) dc_prog_51_method_1_code_26 rfl rfl rfl ?_
  refine go_getF C (pc' := 30) (host := "") (Or.inl (wd_12 hw)) Via.refl ((F2.ext E3).other W4 (Or.inr (slot_ne (a0 := a0) (Or.inr (wd_13 hw)) (Or.inr (wd_16 hw)) (by decide) (t := (.array (.array .int))) (t' := (.array .int)) (by decide) (by decide)))) dc_prog_51_method_1_code_27 rfl ?_
  refine go_iloadN C (pc' := 31) dc_prog_51_method_1_code_30 rfl rfl ?_
  refine go_bipush C (pc' := 33) dc_prog_51_method_1_code_31 (z := (16 : Int32)) (by decide) rfl ?_
  refine go_newPE C (pc' := 35) (len := 16) (ty := .int) rfl (ad := "[I") rfl (wd_14 hw) dc_prog_51_method_1_code_33 rfl (by decide) (by decide) (by decide) (by decide) (by decide) ?_
  intro h5 b5 k5 g5 n5 E5 A5 X5
  have sz_b5 := Nat.le_trans (Nat.le_trans (Nat.le_trans (Nat.le_trans (Nat.le_trans (Nat.le_refl _) E1.1) (Nat.le_of_eq W2.size.symm)) E3.1) (Nat.le_of_eq W4.size.symm)) (Nat.le_of_eq g5.symm)
  have ne_b_b5 : b ≠ b5 := Nat.ne_of_lt (by rw [g5]; exact ((((E_b.ext E1).wr W2).ext E3).wr W4).lt)
  have ne_b1_b5 : b1 ≠ b5 := Nat.ne_of_lt (by rw [g5]; exact (((A1.other W2 (Ne.symm ne_b_b1)).ext E3).other W4 (Ne.symm ne_b_b1)).lt)
  have ne_b3_b5 : b3 ≠ b5 := Nat.ne_of_lt (by rw [g5]; exact (A3.other W4 (Ne.symm ne_b_b3)).lt)
  refine go_aaset C (pc' := 36) ((((A1.other W2 (Ne.symm ne_b_b1)).ext E3).other W4 (Ne.symm ne_b_b1)).ext E5) V1 (Ins.self X5) (by decide) (i := 0) (by decide) (by simp) (vs' := [(.ref b5), .null, .null, .null, .null, .null, .null]) rfl dc_prog_51_method_1_code_35 rfl n1 ?_
  intro h6 W6 A6
  refine go_iinc C (pc' := 39) dc_prog_51_method_1_code_36 rfl (Ls' := #[(.val (.ref b)), (.val (.int (7 : Int32))), (.val (.int ((0 : Int32) + (1 : Int32))))]) rfl rfl ?_
  refine go_ls (Ls' := #[(.val (.ref b)), (.val (.int (7 : Int32))), (.val (.int (1 : Int32)))]) (by rw [show ((0 : Int32) + (1 : Int32)) = (1 : Int32) from by decide]) ?_
  refine go_goto C (pc' := 21) dc_prog_51_method_1_code_39 (by decide) (by decide) ?_
  refine go_iloadN C (pc' := 22) dc_prog_51_method_1_code_21 rfl rfl ?_
  refine go_iloadN C (pc' := 23) dc_prog_51_method_1_code_22 rfl rfl ?_
  refine go_icmpNo C (pc' := 26) dc_prog_51_method_1_code_23 (by decide) rfl ?_
  refine go_aloadN C (pc' := 27) dc_prog_51_method_1_code_26 rfl rfl rfl ?_
  refine go_getF C (pc' := 30) (host := "") (Or.inl (wd_12 hw)) Via.refl ((((F2.ext E3).other W4 (Or.inr (slot_ne (a0 := a0) (Or.inr (wd_13 hw)) (Or.inr (wd_16 hw)) (by decide) (t := (.array (.array .int))) (t' := (.array .int)) (by decide) (by decide)))).ext E5).other W6 (Or.inl ne_b_b1)) dc_prog_51_method_1_code_27 rfl ?_
  refine go_iloadN C (pc' := 31) dc_prog_51_method_1_code_30 rfl rfl ?_
  refine go_bipush C (pc' := 33) dc_prog_51_method_1_code_31 (z := (16 : Int32)) (by decide) rfl ?_
  refine go_newPE C (pc' := 35) (len := 16) (ty := .int) rfl (ad := "[I") rfl (wd_14 hw) dc_prog_51_method_1_code_33 rfl (by decide) (by decide) (by decide) (by decide) (by decide) ?_
  intro h7 b7 k7 g7 n7 E7 A7 X7
  have sz_b7 := Nat.le_trans (Nat.le_trans (Nat.le_trans (Nat.le_trans (Nat.le_trans (Nat.le_trans (Nat.le_trans (Nat.le_refl _) E1.1) (Nat.le_of_eq W2.size.symm)) E3.1) (Nat.le_of_eq W4.size.symm)) E5.1) (Nat.le_of_eq W6.size.symm)) (Nat.le_of_eq g7.symm)
  have ne_b_b7 : b ≠ b7 := Nat.ne_of_lt (by rw [g7]; exact ((((((E_b.ext E1).wr W2).ext E3).wr W4).ext E5).wr W6).lt)
  have ne_b1_b7 : b1 ≠ b7 := Nat.ne_of_lt (by rw [g7]; exact A6.lt)
  have ne_b3_b7 : b3 ≠ b7 := Nat.ne_of_lt (by rw [g7]; exact (((A3.other W4 (Ne.symm ne_b_b3)).ext E5).other W6 (Ne.symm ne_b1_b3)).lt)
  have ne_b5_b7 : b5 ≠ b7 := Nat.ne_of_lt (by rw [g7]; exact (A5.other W6 (Ne.symm ne_b1_b5)).lt)
  refine go_aaset C (pc' := 36) (A6.ext E7) V1 (Ins.self X7) (by decide) (i := 1) (by decide) (by simp) (vs' := [(.ref b5), (.ref b7), .null, .null, .null, .null, .null]) rfl dc_prog_51_method_1_code_35 rfl n1 ?_
  intro h8 W8 A8
  refine go_iinc C (pc' := 39) dc_prog_51_method_1_code_36 rfl (Ls' := #[(.val (.ref b)), (.val (.int (7 : Int32))), (.val (.int ((1 : Int32) + (1 : Int32))))]) rfl rfl ?_
  refine go_ls (Ls' := #[(.val (.ref b)), (.val (.int (7 : Int32))), (.val (.int (2 : Int32)))]) (by rw [show ((1 : Int32) + (1 : Int32)) = (2 : Int32) from by decide]) ?_
  refine go_goto C (pc' := 21) dc_prog_51_method_1_code_39 (by decide) (by decide) ?_
  refine go_iloadN C (pc' := 22) dc_prog_51_method_1_code_21 rfl rfl ?_
  refine go_iloadN C (pc' := 23) dc_prog_51_method_1_code_22 rfl rfl ?_
  refine go_icmpNo C (pc' := 26) dc_prog_51_method_1_code_23 (by decide) rfl ?_
  refine go_aloadN C (pc' := 27) dc_prog_51_method_1_code_26 rfl rfl rfl ?_
  refine go_getF C (pc' := 30) (host := "") (Or.inl (wd_12 hw)) Via.refl ((((((F2.ext E3).other W4 (Or.inr (slot_ne (a0 := a0) (Or.inr (wd_13 hw)) (Or.inr (wd_16 hw)) (by decide) (t := (.array (.array .int))) (t' := (.array .int)) (by decide) (by decide)))).ext E5).other W6 (Or.inl ne_b_b1)).ext E7).other W8 (Or.inl ne_b_b1)) dc_prog_51_method_1_code_27 rfl ?_
  refine go_iloadN C (pc' := 31) dc_prog_51_method_1_code_30 rfl rfl ?_
  refine go_bipush C (pc' := 33) dc_prog_51_method_1_code_31 (z := (16 : Int32)) (by decide) rfl ?_
  refine go_newPE C (pc' := 35) (len := 16) (ty := .int) rfl (ad := "[I") rfl (wd_14 hw) dc_prog_51_method_1_code_33 rfl (by decide) (by decide) (by decide) (by decide) (by decide) ?_
  intro h9 b9 k9 g9 n9 E9 A9 X9
  have sz_b9 := Nat.le_trans (Nat.le_trans (Nat.le_trans (Nat.le_trans (Nat.le_trans (Nat.le_trans (Nat.le_trans (Nat.le_trans (Nat.le_trans (Nat.le_refl _) E1.1) (Nat.le_of_eq W2.size.symm)) E3.1) (Nat.le_of_eq W4.size.symm)) E5.1) (Nat.le_of_eq W6.size.symm)) E7.1) (Nat.le_of_eq W8.size.symm)) (Nat.le_of_eq g9.symm)
  have ne_b_b9 : b ≠ b9 := Nat.ne_of_lt (by rw [g9]; exact ((((((((E_b.ext E1).wr W2).ext E3).wr W4).ext E5).wr W6).ext E7).wr W8).lt)
  have ne_b1_b9 : b1 ≠ b9 := Nat.ne_of_lt (by rw [g9]; exact A8.lt)
  have ne_b3_b9 : b3 ≠ b9 := Nat.ne_of_lt (by rw [g9]; exact (((((A3.other W4 (Ne.symm ne_b_b3)).ext E5).other W6 (Ne.symm ne_b1_b3)).ext E7).other W8 (Ne.symm ne_b1_b3)).lt)
  have ne_b5_b9 : b5 ≠ b9 := Nat.ne_of_lt (by rw [g9]; exact (((A5.other W6 (Ne.symm ne_b1_b5)).ext E7).other W8 (Ne.symm ne_b1_b5)).lt)
  have ne_b7_b9 : b7 ≠ b9 := Nat.ne_of_lt (by rw [g9]; exact (A7.other W8 (Ne.symm ne_b1_b7)).lt)
  refine go_aaset C (pc' := 36) (A8.ext E9) V1 (Ins.self X9) (by decide) (i := 2) (by decide) (by simp) (vs' := [(.ref b5), (.ref b7), (.ref b9), .null, .null, .null, .null]) rfl dc_prog_51_method_1_code_35 rfl n1 ?_
  intro h10 W10 A10
  refine go_iinc C (pc' := 39) dc_prog_51_method_1_code_36 rfl (Ls' := #[(.val (.ref b)), (.val (.int (7 : Int32))), (.val (.int ((2 : Int32) + (1 : Int32))))]) rfl rfl ?_
  refine go_ls (Ls' := #[(.val (.ref b)), (.val (.int (7 : Int32))), (.val (.int (3 : Int32)))]) (by rw [show ((2 : Int32) + (1 : Int32)) = (3 : Int32) from by decide]) ?_
  refine go_goto C (pc' := 21) dc_prog_51_method_1_code_39 (by decide) (by decide) ?_
  refine go_iloadN C (pc' := 22) dc_prog_51_method_1_code_21 rfl rfl ?_
  refine go_iloadN C (pc' := 23) dc_prog_51_method_1_code_22 rfl rfl ?_
  refine go_icmpNo C (pc' := 26) dc_prog_51_method_1_code_23 (by decide) rfl ?_
  refine go_aloadN C (pc' := 27) dc_prog_51_method_1_code_26 rfl rfl rfl ?_
  refine go_getF C (pc' := 30) (host := "") (Or.inl (wd_12 hw)) Via.refl ((((((((F2.ext E3).other W4 (Or.inr (slot_ne (a0 := a0) (Or.inr (wd_13 hw)) (Or.inr (wd_16 hw)) (by decide) (t := (.array (.array .int))) (t' := (.array .int)) (by decide) (by decide)))).ext E5).other W6 (Or.inl ne_b_b1)).ext E7).other W8 (Or.inl ne_b_b1)).ext E9).other W10 (Or.inl ne_b_b1)) dc_prog_51_method_1_code_27 rfl ?_
  refine go_iloadN C (pc' := 31) dc_prog_51_method_1_code_30 rfl rfl ?_
  refine go_bipush C (pc' := 33) dc_prog_51_method_1_code_31 (z := (16 : Int32)) (by decide) rfl ?_
  refine go_newPE C (pc' := 35) (len := 16) (ty := .int) rfl (ad := "[I") rfl (wd_14 hw) dc_prog_51_method_1_code_33 rfl (by decide) (by decide) (by decide) (by decide) (by decide) ?_
  intro h11 b11 k11 g11 n11 E11 A11 X11
  have sz_b11 := Nat.le_trans (Nat.le_trans (Nat.le_trans (Nat.le_trans (Nat.le_trans (Nat.le_trans (Nat.le_trans (Nat.le_trans (Nat.le_trans (Nat.le_trans (Nat.le_trans (Nat.le_refl _) E1.1) (Nat.le_of_eq W2.size.symm)) E3.1) (Nat.le_of_eq W4.size.symm)) E5.1) (Nat.le_of_eq W6.size.symm)) E7.1) (Nat.le_of_eq W8.size.symm)) E9.1) (Nat.le_of_eq W10.size.symm)) (Nat.le_of_eq g11.symm)
  have ne_b_b11 : b ≠ b11 := Nat.ne_of_lt (by rw [g11]; exact ((((((((((E_b.ext E1).wr W2).ext E3).wr W4).ext E5).wr W6).ext E7).wr W8).ext E9).wr W10).lt)
  have ne_b1_b11 : b1 ≠ b11 := Nat.ne_of_lt (by rw [g11]; exact A10.lt)
  have ne_b3_b11 : b3 ≠ b11 := Nat.ne_of_lt (by rw [g11]; exact (((((((A3.other W4 (Ne.symm ne_b_b3)).ext E5).other W6 (Ne.symm ne_b1_b3)).ext E7).other W8 (Ne.symm ne_b1_b3)).ext E9).other W10 (Ne.symm ne_b1_b3)).lt)
  have ne_b5_b11 : b5 ≠ b11 := Nat.ne_of_lt (by rw [g11]; exact (((((A5.other W6 (Ne.symm ne_b1_b5)).ext E7).other W8 (Ne.symm ne_b1_b5)).ext E9).other W10 (Ne.symm ne_b1_b5)).lt)
  have ne_b7_b11 : b7 ≠ b11 := Nat.ne_of_lt (by rw [g11]; exact (((A7.other W8 (Ne.symm ne_b1_b7)).ext E9).other W10 (Ne.symm ne_b1_b7)).lt)
  have ne_b9_b11 : b9 ≠ b11 := Nat.ne_of_lt (by rw [g11]; exact (A9.other W10 (Ne.symm ne_b1_b9)).lt)
  refine go_aaset C (pc' := 36) (A10.ext E11) V1 (Ins.self X11) (by decide) (i := 3) (by decide) (by simp) (vs' := [(.ref b5), (.ref b7), (.ref b9), (.ref b11), .null, .null, .null]) rfl dc_prog_51_method_1_code_35 rfl n1 ?_
  intro h12 W12 A12
  refine go_iinc C (pc' := 39) dc_prog_51_method_1_code_36 rfl (Ls' := #[(.val (.ref b)), (.val (.int (7 : Int32))), (.val (.int ((3 : Int32) + (1 : Int32))))]) rfl rfl ?_
  refine go_ls (Ls' := #[(.val (.ref b)), (.val (.int (7 : Int32))), (.val (.int (4 : Int32)))]) (by rw [show ((3 : Int32) + (1 : Int32)) = (4 : Int32) from by decide]) ?_
  refine go_goto C (pc' := 21) dc_prog_51_method_1_code_39 (by decide) (by decide) ?_
  refine go_iloadN C (pc' := 22) dc_prog_51_method_1_code_21 rfl rfl ?_
  refine go_iloadN C (pc' := 23) dc_prog_51_method_1_code_22 rfl rfl ?_
  refine go_icmpNo C (pc' := 26) dc_prog_51_method_1_code_23 (by decide) rfl ?_
  refine go_aloadN C (pc' := 27) dc_prog_51_method_1_code_26 rfl rfl rfl ?_
  refine go_getF C (pc' := 30) (host := "") (Or.inl (wd_12 hw)) Via.refl ((((((((((F2.ext E3).other W4 (Or.inr (slot_ne (a0 := a0) (Or.inr (wd_13 hw)) (Or.inr (wd_16 hw)) (by decide) (t := (.array (.array .int))) (t' := (.array .int)) (by decide) (by decide)))).ext E5).other W6 (Or.inl ne_b_b1)).ext E7).other W8 (Or.inl ne_b_b1)).ext E9).other W10 (Or.inl ne_b_b1)).ext E11).other W12 (Or.inl ne_b_b1)) dc_prog_51_method_1_code_27 rfl ?_
  refine go_iloadN C (pc' := 31) dc_prog_51_method_1_code_30 rfl rfl ?_
  refine go_bipush C (pc' := 33) dc_prog_51_method_1_code_31 (z := (16 : Int32)) (by decide) rfl ?_
  refine go_newPE C (pc' := 35) (len := 16) (ty := .int) rfl (ad := "[I") rfl (wd_14 hw) dc_prog_51_method_1_code_33 rfl (by decide) (by decide) (by decide) (by decide) (by decide) ?_
  intro h13 b13 k13 g13 n13 E13 A13 X13
  have sz_b13 := Nat.le_trans (Nat.le_trans (Nat.le_trans (Nat.le_trans (Nat.le_trans (Nat.le_trans (Nat.le_trans (Nat.le_trans (Nat.le_trans (Nat.le_trans (Nat.le_trans (Nat.le_trans (Nat.le_trans (Nat.le_refl _) E1.1) (Nat.le_of_eq W2.size.symm)) E3.1) (Nat.le_of_eq W4.size.symm)) E5.1) (Nat.le_of_eq W6.size.symm)) E7.1) (Nat.le_of_eq W8.size.symm)) E9.1) (Nat.le_of_eq W10.size.symm)) E11.1) (Nat.le_of_eq W12.size.symm)) (Nat.le_of_eq g13.symm)
  have ne_b_b13 : b ≠ b13 := Nat.ne_of_lt (by rw [g13]; exact ((((((((((((E_b.ext E1).wr W2).ext E3).wr W4).ext E5).wr W6).ext E7).wr W8).ext E9).wr W10).ext E11).wr W12).lt)
  have ne_b1_b13 : b1 ≠ b13 := Nat.ne_of_lt (by rw [g13]; exact A12.lt)
  have ne_b3_b13 : b3 ≠ b13 := Nat.ne_of_lt (by rw [g13]; exact (((((((((A3.other W4 (Ne.symm ne_b_b3)).ext E5).other W6 (Ne.symm ne_b1_b3)).ext E7).other W8 (Ne.symm ne_b1_b3)).ext E9).other W10 (Ne.symm ne_b1_b3)).ext E11).other W12 (Ne.symm ne_b1_b3)).lt)
  have ne_b5_b13 : b5 ≠ b13 := Nat.ne_of_lt (by rw [g13]; exact (((((((A5.other W6 (Ne.symm ne_b1_b5)).ext E7).other W8 (Ne.symm ne_b1_b5)).ext E9).other W10 (Ne.symm ne_b1_b5)).ext E11).other W12 (Ne.symm ne_b1_b5)).lt)
  have ne_b7_b13 : b7 ≠ b13 := Nat.ne_of_lt (by rw [g13]; exact (((((A7.other W8 (Ne.symm ne_b1_b7)).ext E9).other W10 (Ne.symm ne_b1_b7)).ext E11).other W12 (Ne.symm ne_b1_b7)).lt)
  have ne_b9_b13 : b9 ≠ b13 := Nat.ne_of_lt (by rw [g13]; exact (((A9.other W10 (Ne.symm ne_b1_b9)).ext E11).other W12 (Ne.symm ne_b1_b9)).lt)
  have ne_b11_b13 : b11 ≠ b13 := Nat.ne_of_lt (by rw [g13]; exact (A11.other W12 (Ne.symm ne_b1_b11)).lt)
  refine go_aaset C (pc' := 36) (A12.ext E13) V1 (Ins.self X13) (by decide) (i := 4) (by decide) (by simp) (vs' := [(.ref b5), (.ref b7), (.ref b9), (.ref b11), (.ref b13), .null, .null]) rfl dc_prog_51_method_1_code_35 rfl n1 ?_
  intro h14 W14 A14
  refine go_iinc C (pc' := 39) dc_prog_51_method_1_code_36 rfl (Ls' := #[(.val (.ref b)), (.val (.int (7 : Int32))), (.val (.int ((4 : Int32) + (1 : Int32))))]) rfl rfl ?_
  refine go_ls (Ls' := #[(.val (.ref b)), (.val (.int (7 : Int32))), (.val (.int (5 : Int32)))]) (by rw [show ((4 : Int32) + (1 : Int32)) = (5 : Int32) from by decide]) ?_
  refine go_goto C (pc' := 21) dc_prog_51_method_1_code_39 (by decide) (by decide) ?_
  refine go_iloadN C (pc' := 22) dc_prog_51_method_1_code_21 rfl rfl ?_
  refine go_iloadN C (pc' := 23) dc_prog_51_method_1_code_22 rfl rfl ?_
  refine go_icmpNo C (pc' := 26) dc_prog_51_method_1_code_23 (by decide) rfl ?_
  refine go_aloadN C (pc' := 27) dc_prog_51_method_1_code_26 rfl rfl rfl ?_
  refine go_getF C (pc' := 30) (host := "") (Or.inl (wd_12 hw)) Via.refl ((((((((((((F2.ext E3).other W4 (Or.inr (slot_ne (a0 := a0) (Or.inr (wd_13 hw)) (Or.inr (wd_16 hw)) (by decide) (t := (.array (.array .int))) (t' := (.array .int)) (by decide) (by decide)))).ext E5).other W6 (Or.inl ne_b_b1)).ext E7).other W8 (Or.inl ne_b_b1)).ext E9).other W10 (Or.inl ne_b_b1)).ext E11).other W12 (Or.inl ne_b_b1)).ext E13).other W14 (Or.inl ne_b_b1)) dc_prog_51_method_1_code_27 rfl ?_
  refine go_iloadN C (pc' := 31) dc_prog_51_method_1_code_30 rfl rfl ?_
  refine go_bipush C (pc' := 33) dc_prog_51_method_1_code_31 (z := (16 : Int32)) (by decide) rfl ?_
  refine go_newPE C (pc' := 35) (len := 16) (ty := .int) rfl (ad := "[I") rfl (wd_14 hw) dc_prog_51_method_1_code_33 rfl (by decide) (by decide) (by decide) (by decide) (by decide) ?_
  intro h15 b15 k15 g15 n15 E15 A15 X15
  have sz_b15 := Nat.le_trans (Nat.le_trans (Nat.le_trans (Nat.le_trans (Nat.le_trans (Nat.le_trans (Nat.le_trans (Nat.le_trans (Nat.le_trans (Nat.le_trans (Nat.le_trans (Nat.le_trans (Nat.le_trans (Nat.le_trans (Nat.le_trans (Nat.le_refl _) E1.1) (Nat.le_of_eq W2.size.symm)) E3.1) (Nat.le_of_eq W4.size.symm)) E5.1) (Nat.le_of_eq W6.size.symm)) E7.1) (Nat.le_of_eq W8.size.symm)) E9.1) (Nat.le_of_eq W10.size.symm)) E11.1) (Nat.le_of_eq W12.size.symm)) E13.1) (Nat.le_of_eq W14.size.symm)) (Nat.le_of_eq g15.symm)
  have ne_b_b15 : b ≠ b15 := Nat.ne_of_lt (by rw [g15]; exact ((((((((((((((E_b.ext E1).wr W2).ext E3).wr W4).ext E5).wr W6).ext E7).wr W8).ext E9).wr W10).ext E11).wr W12).ext E13).wr W14).lt)
  have ne_b1_b15 : b1 ≠ b15 := Nat.ne_of_lt (by rw [g15]; exact A14.lt)
  have ne_b3_b15 : b3 ≠ b15 := Nat.ne_of_lt (by rw [g15]; exact (((((((((((A3.other W4 (Ne.symm ne_b_b3)).ext E5).other W6 (Ne.symm ne_b1_b3)).ext E7).other W8 (Ne.symm ne_b1_b3)).ext E9).other W10 (Ne.symm ne_b1_b3)).ext E11).other W12 (Ne.symm ne_b1_b3)).ext E13).other W14 (Ne.symm ne_b1_b3)).lt)
  have ne_b5_b15 : b5 ≠ b15 := Nat.ne_of_lt (by rw [g15]; exact (((((((((A5.other W6 (Ne.symm ne_b1_b5)).ext E7).other W8 (Ne.symm ne_b1_b5)).ext E9).other W10 (Ne.symm ne_b1_b5)).ext E11).other W12 (Ne.symm ne_b1_b5)).ext E13).other W14 (Ne.symm ne_b1_b5)).lt)
  have ne_b7_b15 : b7 ≠ b15 := Nat.ne_of_lt (by rw [g15]; exact (((((((A7.other W8 (Ne.symm ne_b1_b7)).ext E9).other W10 (Ne.symm ne_b1_b7)).ext E11).other W12 (Ne.symm ne_b1_b7)).ext E13).other W14 (Ne.symm ne_b1_b7)).lt)
  have ne_b9_b15 : b9 ≠ b15 := Nat.ne_of_lt (by rw [g15]; exact (((((A9.other W10 (Ne.symm ne_b1_b9)).ext E11).other W12 (Ne.symm ne_b1_b9)).ext E13).other W14 (Ne.symm ne_b1_b9)).lt)
  have ne_b11_b15 : b11 ≠ b15 := Nat.ne_of_lt (by rw [g15]; exact (((A11.other W12 (Ne.symm ne_b1_b11)).ext E13).other W14 (Ne.symm ne_b1_b11)).lt)
  have ne_b13_b15 : b13 ≠ b15 := Nat.ne_of_lt (by rw [g15]; exact (A13.other W14 (Ne.symm ne_b1_b13)).lt)
  refine go_aaset C (pc' := 36) (A14.ext E15) V1 (Ins.self X15) (by decide) (i := 5) (by decide) (by simp) (vs' := [(.ref b5), (.ref b7), (.ref b9), (.ref b11), (.ref b13), (.ref b15), .null]) rfl dc_prog_51_method_1_code_35 rfl n1 ?_
  intro h16 W16 A16
  refine go_iinc C (pc' := 39) dc_prog_51_method_1_code_36 rfl (Ls' := #[(.val (.ref b)), (.val (.int (7 : Int32))), (.val (.int ((5 : Int32) + (1 : Int32))))]) rfl rfl ?_
  refine go_ls (Ls' := #[(.val (.ref b)), (.val (.int (7 : Int32))), (.val (.int (6 : Int32)))]) (by rw [show ((5 : Int32) + (1 : Int32)) = (6 : Int32) from by decide]) ?_
  refine go_goto C (pc' := 21) dc_prog_51_method_1_code_39 (by decide) (by decide) ?_
  refine go_iloadN C (pc' := 22) dc_prog_51_method_1_code_21 rfl rfl ?_
  refine go_iloadN C (pc' := 23) dc_prog_51_method_1_code_22 rfl rfl ?_
  refine go_icmpNo C (pc' := 26) dc_prog_51_method_1_code_23 (by decide) rfl ?_
  refine go_aloadN C (pc' := 27) dc_prog_51_method_1_code_26 rfl rfl rfl ?_
  refine go_getF C (pc' := 30) (host := "") (Or.inl (wd_12 hw)) Via.refl ((((((((((((((F2.ext E3).other W4 (Or.inr (slot_ne (a0 := a0) (Or.inr (wd_13 hw)) (Or.inr (wd_16 hw)) (by decide) (t := (.array (.array .int))) (t' := (.array .int)) (by decide) (by decide)))).ext E5).other W6 (Or.inl ne_b_b1)).ext E7).other W8 (Or.inl ne_b_b1)).ext E9).other W10 (Or.inl ne_b_b1)).ext E11).other W12 (Or.inl ne_b_b1)).ext E13).other W14 (Or.inl ne_b_b1)).ext E15).other W16 (Or.inl ne_b_b1)) dc_prog_51_method_1_code_27 rfl ?_
  refine go_iloadN C (pc' := 31) dc_prog_51_method_1_code_30 rfl rfl ?_
  refine go_bipush C (pc' := 33) dc_prog_51_method_1_code_31 (z := (16 : Int32)) (by decide) rfl ?_
  refine go_newPE C (pc' := 35) (len := 16) (ty := .int) rfl (ad := "[I") rfl (wd_14 hw) dc_prog_51_method_1_code_33 rfl (by decide) (by decide) (by decide) (by decide) (by decide) ?_
  intro h17 b17 k17 g17 n17 E17 A17 X17
  have sz_b17 := Nat.le_trans (Nat.le_trans (Nat.le_trans (Nat.le_trans (Nat.le_trans (Nat.le_trans (Nat.le_trans (Nat.le_trans (Nat.le_trans (Nat.le_trans (Nat.le_trans (Nat.le_trans (Nat.le_trans (Nat.le_trans (Nat.le_trans (Nat.le_trans (Nat.le_trans (Nat.le_refl _) E1.1) (Nat.le_of_eq W2.size.symm)) E3.1) (Nat.le_of_eq W4.size.symm)) E5.1) (Nat.le_of_eq W6.size.symm)) E7.1) (Nat.le_of_eq W8.size.symm)) E9.1) (Nat.le_of_eq W10.size.symm)) E11.1) (Nat.le_of_eq W12.size.symm)) E13.1) (Nat.le_of_eq W14.size.symm)) E15.1) (Nat.le_of_eq W16.size.symm)) (Nat.le_of_eq g17.symm)
  have ne_b_b17 : b ≠ b17 := Nat.ne_of_lt (by rw [g17]; exact ((((((((((((((((E_b.ext E1).wr W2).ext E3).wr W4).ext E5).wr W6).ext E7).wr W8).ext E9).wr W10).ext E11).wr W12).ext E13).wr W14).ext E15).wr W16).lt)
  have ne_b1_b17 : b1 ≠ b17 := Nat.ne_of_lt (by rw [g17]; exact A16.lt)
  have ne_b3_b17 : b3 ≠ b17 := Nat.ne_of_lt (by rw [g17]; exact (((((((((((((A3.other W4 (Ne.symm ne_b_b3)).ext E5).other W6 (Ne.symm ne_b1_b3)).ext E7).other W8 (Ne.symm ne_b1_b3)).ext E9).other W10 (Ne.symm ne_b1_b3)).ext E11).other W12 (Ne.symm ne_b1_b3)).ext E13).other W14 (Ne.symm ne_b1_b3)).ext E15).other W16 (Ne.symm ne_b1_b3)).lt)
  have ne_b5_b17 : b5 ≠ b17 := Nat.ne_of_lt (by rw [g17]; exact (((((((((((A5.other W6 (Ne.symm ne_b1_b5)).ext E7).other W8 (Ne.symm ne_b1_b5)).ext E9).other W10 (Ne.symm ne_b1_b5)).ext E11).other W12 (Ne.symm ne_b1_b5)).ext E13).other W14 (Ne.symm ne_b1_b5)).ext E15).other W16 (Ne.symm ne_b1_b5)).lt)
  have ne_b7_b17 : b7 ≠ b17 := Nat.ne_of_lt (by rw [g17]; exact (((((((((A7.other W8 (Ne.symm ne_b1_b7)).ext E9).other W10 (Ne.symm ne_b1_b7)).ext E11).other W12 (Ne.symm ne_b1_b7)).ext E13).other W14 (Ne.symm ne_b1_b7)).ext E15).other W16 (Ne.symm ne_b1_b7)).lt)
  have ne_b9_b17 : b9 ≠ b17 := Nat.ne_of_lt (by rw [g17]; exact (((((((A9.other W10 (Ne.symm ne_b1_b9)).ext E11).other W12 (Ne.symm ne_b1_b9)).ext E13).other W14 (Ne.symm ne_b1_b9)).ext E15).other W16 (Ne.symm ne_b1_b9)).lt)
  have ne_b11_b17 : b11 ≠ b17 := Nat.ne_of_lt (by rw [g17]; exact (((((A11.other W12 (Ne.symm ne_b1_b11)).ext E13).other W14 (Ne.symm ne_b1_b11)).ext E15).other W16 (Ne.symm ne_b1_b11)).lt)
  have ne_b13_b17 : b13 ≠ b17 := Nat.ne_of_lt (by rw [g17]; exact (((A13.other W14 (Ne.symm ne_b1_b13)).ext E15).other W16 (Ne.symm ne_b1_b13)).lt)
  have ne_b15_b17 : b15 ≠ b17 := Nat.ne_of_lt (by rw [g17]; exact (A15.other W16 (Ne.symm ne_b1_b15)).lt)
  refine go_aaset C (pc' := 36) (A16.ext E17) V1 (Ins.self X17) (by decide) (i := 6) (by decide) (by simp) (vs' := [(.ref b5), (.ref b7), (.ref b9), (.ref b11), (.ref b13), (.ref b15), (.ref b17)]) rfl dc_prog_51_method_1_code_35 rfl n1 ?_
  intro h18 W18 A18
  refine go_iinc C (pc' := 39) dc_prog_51_method_1_code_36 rfl (Ls' := #[(.val (.ref b)), (.val (.int (7 : Int32))), (.val (.int ((6 : Int32) + (1 : Int32))))]) rfl rfl ?_
  refine go_ls (Ls' := #[(.val (.ref b)), (.val (.int (7 : Int32))), (.val (.int (7 : Int32)))]) (by rw [show ((6 : Int32) + (1 : Int32)) = (7 : Int32) from by decide]) ?_
  refine go_goto C (pc' := 21) dc_prog_51_method_1_code_39 (by decide) (by decide) ?_
  refine go_iloadN C (pc' := 22) dc_prog_51_method_1_code_21 rfl rfl ?_
  refine go_iloadN C (pc' := 23) dc_prog_51_method_1_code_22 rfl rfl ?_
  refine go_icmpYes C (pc' := 42) dc_prog_51_method_1_code_23 (by decide) (by decide) (by decide) ?_
  exact go_ret0 C dc_prog_51_method_1_code_42 (by decide) (by decide) ⟨rfl, ⟨b1, b3, k1, _, (fun i => ([b5, b7, b9, b11, b13, b15, b17] : List Addr).getD i 0), (fun i => ([k5, k7, k9, k11, k13, k15, k17] : List ClassId).getD i 0), _, _, (fun _ => List.replicate 16 (.int 0)), ((((((((((((((((((E_b.ext E1).wr W2).ext E3).wr W4).ext E5).wr W6).ext E7).wr W8).ext E9).wr W10).ext E11).wr W12).ext E13).wr W14).ext E15).wr W16).ext E17).wr W18), ((((((((((((((((F2.ext E3).other W4 (Or.inr (slot_ne (a0 := a0) (Or.inr (wd_13 hw)) (Or.inr (wd_16 hw)) (by decide) (t := (.array (.array .int))) (t' := (.array .int)) (by decide) (by decide)))).ext E5).other W6 (Or.inl ne_b_b1)).ext E7).other W8 (Or.inl ne_b_b1)).ext E9).other W10 (Or.inl ne_b_b1)).ext E11).other W12 (Or.inl ne_b_b1)).ext E13).other W14 (Or.inl ne_b_b1)).ext E15).other W16 (Or.inl ne_b_b1)).ext E17).other W18 (Or.inl ne_b_b1)), ((((((((((((((F4.ext E5).other W6 (Or.inl ne_b_b1)).ext E7).other W8 (Or.inl ne_b_b1)).ext E9).other W10 (Or.inl ne_b_b1)).ext E11).other W12 (Or.inl ne_b_b1)).ext E13).other W14 (Or.inl ne_b_b1)).ext E15).other W16 (Or.inl ne_b_b1)).ext E17).other W18 (Or.inl ne_b_b1)), ((((((((((((((((((F_b_lowest.ext E1).other W2 (Or.inr (slot_ne (a0 := a0) (Or.inl (wd_36 hw)) (Or.inr (wd_13 hw)) (by decide) (t := .long) (t' := (.array (.array .int))) (by decide) (by decide)))).ext E3).other W4 (Or.inr (slot_ne (a0 := a0) (Or.inl (wd_36 hw)) (Or.inr (wd_16 hw)) (by decide) (t := .long) (t' := (.array .int)) (by decide) (by decide)))).ext E5).other W6 (Or.inl ne_b_b1)).ext E7).other W8 (Or.inl ne_b_b1)).ext E9).other W10 (Or.inl ne_b_b1)).ext E11).other W12 (Or.inl ne_b_b1)).ext E13).other W14 (Or.inl ne_b_b1)).ext E15).other W16 (Or.inl ne_b_b1)).ext E17).other W18 (Or.inl ne_b_b1)), ((((((((((((((((((F_b_size.ext E1).other W2 (Or.inr (slot_ne (a0 := a0) (Or.inl (wd_24 hw)) (Or.inr (wd_13 hw)) (by decide) (t := .long) (t' := (.array (.array .int))) (by decide) (by decide)))).ext E3).other W4 (Or.inr (slot_ne (a0 := a0) (Or.inl (wd_24 hw)) (Or.inr (wd_16 hw)) (by decide) (t := .long) (t' := (.array .int)) (by decide) (by decide)))).ext E5).other W6 (Or.inl ne_b_b1)).ext E7).other W8 (Or.inl ne_b_b1)).ext E9).other W10 (Or.inl ne_b_b1)).ext E11).other W12 (Or.inl ne_b_b1)).ext E13).other W14 (Or.inl ne_b_b1)).ext E15).other W16 (Or.inl ne_b_b1)).ext E17).other W18 (Or.inl ne_b_b1)), A18, rfl, (fun i hi => by match i, hi with | 0, _ => rfl | 1, _ => rfl | 2, _ => rfl | 3, _ => rfl | 4, _ => rfl | 5, _ => rfl | 6, _ => rfl), (((((((((((((((A3.other W4 (Ne.symm ne_b_b3)).ext E5).other W6 (Ne.symm ne_b1_b3)).ext E7).other W8 (Ne.symm ne_b1_b3)).ext E9).other W10 (Ne.symm ne_b1_b3)).ext E11).other W12 (Ne.symm ne_b1_b3)).ext E13).other W14 (Ne.symm ne_b1_b3)).ext E15).other W16 (Ne.symm ne_b1_b3)).ext E17).other W18 (Ne.symm ne_b1_b3)), rfl, (fun i hi => by match i, hi with | 0, _ => rfl | 1, _ => rfl | 2, _ => rfl | 3, _ => rfl | 4, _ => rfl | 5, _ => rfl | 6, _ => rfl), (fun i hi => by match i, hi with | 0, _ => exact (((((((((((((A5.other W6 (Ne.symm ne_b1_b5)).ext E7).other W8 (Ne.symm ne_b1_b5)).ext E9).other W10 (Ne.symm ne_b1_b5)).ext E11).other W12 (Ne.symm ne_b1_b5)).ext E13).other W14 (Ne.symm ne_b1_b5)).ext E15).other W16 (Ne.symm ne_b1_b5)).ext E17).other W18 (Ne.symm ne_b1_b5)) | 1, _ => exact (((((((((((A7.other W8 (Ne.symm ne_b1_b7)).ext E9).other W10 (Ne.symm ne_b1_b7)).ext E11).other W12 (Ne.symm ne_b1_b7)).ext E13).other W14 (Ne.symm ne_b1_b7)).ext E15).other W16 (Ne.symm ne_b1_b7)).ext E17).other W18 (Ne.symm ne_b1_b7)) | 2, _ => exact (((((((((A9.other W10 (Ne.symm ne_b1_b9)).ext E11).other W12 (Ne.symm ne_b1_b9)).ext E13).other W14 (Ne.symm ne_b1_b9)).ext E15).other W16 (Ne.symm ne_b1_b9)).ext E17).other W18 (Ne.symm ne_b1_b9)) | 3, _ => exact (((((((A11.other W12 (Ne.symm ne_b1_b11)).ext E13).other W14 (Ne.symm ne_b1_b11)).ext E15).other W16 (Ne.symm ne_b1_b11)).ext E17).other W18 (Ne.symm ne_b1_b11)) | 4, _ => exact (((((A13.other W14 (Ne.symm ne_b1_b13)).ext E15).other W16 (Ne.symm ne_b1_b13)).ext E17).other W18 (Ne.symm ne_b1_b13)) | 5, _ => exact (((A15.other W16 (Ne.symm ne_b1_b15)).ext E17).other W18 (Ne.symm ne_b1_b15)) | 6, _ => exact (A17.other W18 (Ne.symm ne_b1_b17))), (fun i hi => rfl), (fun i hi j x hx => by simp at hx), ⟨(Ne.symm ne_b_b1), (Ne.symm ne_b_b3), (Ne.symm ne_b1_b3), (fun i hi => by match i, hi with | 0, _ => exact ⟨(Ne.symm ne_b_b5), (Ne.symm ne_b1_b5), (Ne.symm ne_b3_b5)⟩ | 1, _ => exact ⟨(Ne.symm ne_b_b7), (Ne.symm ne_b1_b7), (Ne.symm ne_b3_b7)⟩ | 2, _ => exact ⟨(Ne.symm ne_b_b9), (Ne.symm ne_b1_b9), (Ne.symm ne_b3_b9)⟩ | 3, _ => exact ⟨(Ne.symm ne_b_b11), (Ne.symm ne_b1_b11), (Ne.symm ne_b3_b11)⟩ | 4, _ => exact ⟨(Ne.symm ne_b_b13), (Ne.symm ne_b1_b13), (Ne.symm ne_b3_b13)⟩ | 5, _ => exact ⟨(Ne.symm ne_b_b15), (Ne.symm ne_b1_b15), (Ne.symm ne_b3_b15)⟩ | 6, _ => exact ⟨(Ne.symm ne_b_b17), (Ne.symm ne_b1_b17), (Ne.symm ne_b3_b17)⟩), (fun i j hi hj hij => by match i, hi, j, hj with | 0, _, 0, _ => exact absurd rfl hij | 0, _, 1, _ => exact ne_b5_b7 | 0, _, 2, _ => exact ne_b5_b9 | 0, _, 3, _ => exact ne_b5_b11 | 0, _, 4, _ => exact ne_b5_b13 | 0, _, 5, _ => exact ne_b5_b15 | 0, _, 6, _ => exact ne_b5_b17 | 1, _, 0, _ => exact (Ne.symm ne_b5_b7) | 1, _, 1, _ => exact absurd rfl hij | 1, _, 2, _ => exact ne_b7_b9 | 1, _, 3, _ => exact ne_b7_b11 | 1, _, 4, _ => exact ne_b7_b13 | 1, _, 5, _ => exact ne_b7_b15 | 1, _, 6, _ => exact ne_b7_b17 | 2, _, 0, _ => exact (Ne.symm ne_b5_b9) | 2, _, 1, _ => exact (Ne.symm ne_b7_b9) | 2, _, 2, _ => exact absurd rfl hij | 2, _, 3, _ => exact ne_b9_b11 | 2, _, 4, _ => exact ne_b9_b13 | 2, _, 5, _ => exact ne_b9_b15 | 2, _, 6, _ => exact ne_b9_b17 | 3, _, 0, _ => exact (Ne.symm ne_b5_b11) | 3, _, 1, _ => exact (Ne.symm ne_b7_b11) | 3, _, 2, _ => exact (Ne.symm ne_b9_b11) | 3, _, 3, _ => exact absurd rfl hij | 3, _, 4, _ => exact ne_b11_b13 | 3, _, 5, _ => exact ne_b11_b15 | 3, _, 6, _ => exact ne_b11_b17 | 4, _, 0, _ => exact (Ne.symm ne_b5_b13) | 4, _, 1, _ => exact (Ne.symm ne_b7_b13) | 4, _, 2, _ => exact (Ne.symm ne_b9_b13) | 4, _, 3, _ => exact (Ne.symm ne_b11_b13) | 4, _, 4, _ => exact absurd rfl hij | 4, _, 5, _ => exact ne_b13_b15 | 4, _, 6, _ => exact ne_b13_b17 | 5, _, 0, _ => exact (Ne.symm ne_b5_b15) | 5, _, 1, _ => exact (Ne.symm ne_b7_b15) | 5, _, 2, _ => exact (Ne.symm ne_b9_b15) | 5, _, 3, _ => exact (Ne.symm ne_b11_b15) | 5, _, 4, _ => exact (Ne.symm ne_b13_b15) | 5, _, 5, _ => exact absurd rfl hij | 5, _, 6, _ => exact ne_b15_b17 | 6, _, 0, _ => exact (Ne.symm ne_b5_b17) | 6, _, 1, _ => exact (Ne.symm ne_b7_b17) | 6, _, 2, _ => exact (Ne.symm ne_b9_b17) | 6, _, 3, _ => exact (Ne.symm ne_b11_b17) | 6, _, 4, _ => exact (Ne.symm ne_b13_b17) | 6, _, 5, _ => exact (Ne.symm ne_b15_b17) | 6, _, 6, _ => exact absurd rfl hij)⟩, nb, n1, n3, (fun i hi => by match i, hi with | 0, _ => exact n5 | 1, _ => exact n7 | 2, _ => exact n9 | 3, _ => exact n11 | 4, _ => exact n13 | 5, _ => exact n15 | 6, _ => exact n17)⟩⟩
set_option maxRecDepth 65536 in
set_option maxHeartbeats 4000000 in
theorem init_6 (l : Launch) (Z : State) (a0 : Array Value) (hw : ∀ d ∈ tables_1, d.before a0 Z = true) (n0 : Nat) (h : Heap) (O : Old Z n0 h) (b : Addr) (E_b : Exa Z h b "com/example/invariant/invariant/check/BucketQueue") (F_b_buckets : Fld Z h b "com/example/invariant/invariant/check/BucketQueue" "buckets" "[[I" .null) (F_b_counts : Fld Z h b "com/example/invariant/invariant/check/BucketQueue" "counts" "[I" .null) (F_b_lowest : Fld Z h b "com/example/invariant/invariant/check/BucketQueue" "lowest" "J" (.long (0 : Int64))) (F_b_size : Fld Z h b "com/example/invariant/invariant/check/BucketQueue" "size" "J" (.long (0 : Int64))) (nb : n0 ≤ b) :
    Met l Z n0 (⟨"com/example/invariant/invariant/check/BucketQueue", "<init>", "(I)V"⟩ : MethodName) prog_51_method_1_code 3 none [] ({ frames := 1, cells := 10, slots := 144, locals := 12 } : Room) #[(.ref b), (.int (6 : Int32))] h (fun v h' => v = none ∧ QAt Z h' n0 b 6 (fun _ => []) 0 0) := by
  refine met_of (Ls := #[(.val (.ref b)), (.val (.int (6 : Int32))), .unset]) (by decide +kernel) (fun m => by first | (simp [entryFrame, mkF, argsToLocals, Value.category]; done) | rfl) O ?_
  intro p e s m below meth cd C
  refine go_aloadN C (pc' := 1) dc_prog_51_method_1_code_0 rfl rfl rfl ?_
  refine go_initO C (pc' := 4) (wd_7 hw) (wd_8 hw) (wd_9 hw) rfl dc_prog_51_method_1_code_1 rfl (by decide) (by decide) ?_
  refine go_aloadN C (pc' := 5) dc_prog_51_method_1_code_4 rfl rfl rfl ?_
  refine go_iloadN C (pc' := 6) dc_prog_51_method_1_code_5 rfl rfl ?_
  refine go_newAA C (pc' := 9) (len := 6) (ty := .int) rfl (ad := "[[I") rfl (wd_10 hw) (wd_11 hw) dc_prog_51_method_1_code_6 rfl (by decide) (by decide) (by decide) (by decide) (by decide) ?_
  intro h1 b1 k1 g1 n1 E1 A1 V1 X1
  have sz_b1 := Nat.le_trans (Nat.le_refl _) (Nat.le_of_eq g1.symm)
  have ne_b_b1 : b ≠ b1 := Nat.ne_of_lt (by rw [g1]; exact E_b.lt)
  refine go_putF C (pc' := 12) (host := "") (Or.inl (wd_12 hw)) Via.refl (F_b_buckets.ext E1) (E_b.ext E1) (Or.inr ⟨(wd_13 hw), rfl, rfl⟩) (wd_2 hw) (ty := (.array (.array .int))) (by decide) rfl rfl dc_prog_51_method_1_code_9 rfl nb ?_
  intro h2 W2 F2
  refine go_aloadN C (pc' := 13) dc_prog_51_method_1_code_12 rfl rfl rfl ?_
  refine go_iloadN C (pc' := 14) dc_prog_51_method_1_code_13 rfl rfl ?_
  refine go_newPA C (pc' := 16) (len := 6) (ty := .int) rfl (wd_14 hw) dc_prog_51_method_1_code_14 rfl (by decide) (by decide) (by decide) (by decide) (by decide) ?_
  intro h3 b3 k3 g3 n3 E3 A3
  have sz_b3 := Nat.le_trans (Nat.le_trans (Nat.le_trans (Nat.le_refl _) E1.1) (Nat.le_of_eq W2.size.symm)) (Nat.le_of_eq g3.symm)
  have ne_b_b3 : b ≠ b3 := Nat.ne_of_lt (by rw [g3]; exact ((E_b.ext E1).wr W2).lt)
  have ne_b1_b3 : b1 ≠ b3 := Nat.ne_of_lt (by rw [g3]; exact (A1.other W2 (Ne.symm ne_b_b1)).lt)
  refine go_putF C (pc' := 19) (host := "") (Or.inl (wd_15 hw)) Via.refl (((F_b_counts.ext E1).other W2 (Or.inr (slot_ne (a0 := a0) (Or.inr (wd_16 hw)) (Or.inr (wd_13 hw)) (by decide) (t := (.array .int)) (t' := (.array (.array .int))) (by decide) (by decide)))).ext E3) (((E_b.ext E1).wr W2).ext E3) (Or.inr ⟨(wd_16 hw), rfl, rfl⟩) (wd_2 hw) (ty := (.array .int)) (by decide) rfl rfl dc_prog_51_method_1_code_16 rfl nb ?_
  intro h4 W4 F4
  refine go_iconst C (pc' := 20) dc_prog_51_method_1_code_19 (z := (0 : Int32)) (by decide) rfl ?_
  refine go_istoreN C (pc' := 21) dc_prog_51_method_1_code_20 (Ls' := #[(.val (.ref b)), (.val (.int (6 : Int32))), (.val (.int (0 : Int32)))]) rfl rfl ?_
  refine go_iloadN C (pc' := 22) dc_prog_51_method_1_code_21 rfl rfl ?_
  refine go_iloadN C (pc' := 23) dc_prog_51_method_1_code_22 rfl rfl ?_
  refine go_icmpNo C (pc' := 26) dc_prog_51_method_1_code_23 (by decide) rfl ?_
  refine go_aloadN C (pc' := 27) dc_prog_51_method_1_code_26 rfl rfl rfl ?_
  refine go_getF C (pc' := 30) (host := "") (Or.inl (wd_12 hw)) Via.refl ((F2.ext E3).other W4 (Or.inr (slot_ne (a0 := a0) (Or.inr (wd_13 hw)) (Or.inr (wd_16 hw)) (by decide) (t := (.array (.array .int))) (t' := (.array .int)) (by decide) (by decide)))) dc_prog_51_method_1_code_27 rfl ?_
  refine go_iloadN C (pc' := 31) dc_prog_51_method_1_code_30 rfl rfl ?_
  refine go_bipush C (pc' := 33) dc_prog_51_method_1_code_31 (z := (16 : Int32)) (by decide) rfl ?_
  refine go_newPE C (pc' := 35) (len := 16) (ty := .int) rfl (ad := "[I") rfl (wd_14 hw) dc_prog_51_method_1_code_33 rfl (by decide) (by decide) (by decide) (by decide) (by decide) ?_
  intro h5 b5 k5 g5 n5 E5 A5 X5
  have sz_b5 := Nat.le_trans (Nat.le_trans (Nat.le_trans (Nat.le_trans (Nat.le_trans (Nat.le_refl _) E1.1) (Nat.le_of_eq W2.size.symm)) E3.1) (Nat.le_of_eq W4.size.symm)) (Nat.le_of_eq g5.symm)
  have ne_b_b5 : b ≠ b5 := Nat.ne_of_lt (by rw [g5]; exact ((((E_b.ext E1).wr W2).ext E3).wr W4).lt)
  have ne_b1_b5 : b1 ≠ b5 := Nat.ne_of_lt (by rw [g5]; exact (((A1.other W2 (Ne.symm ne_b_b1)).ext E3).other W4 (Ne.symm ne_b_b1)).lt)
  have ne_b3_b5 : b3 ≠ b5 := Nat.ne_of_lt (by rw [g5]; exact (A3.other W4 (Ne.symm ne_b_b3)).lt)
  refine go_aaset C (pc' := 36) ((((A1.other W2 (Ne.symm ne_b_b1)).ext E3).other W4 (Ne.symm ne_b_b1)).ext E5) V1 (Ins.self X5) (by decide) (i := 0) (by decide) (by simp) (vs' := [(.ref b5), .null, .null, .null, .null, .null]) rfl dc_prog_51_method_1_code_35 rfl n1 ?_
  intro h6 W6 A6
  refine go_iinc C (pc' := 39) dc_prog_51_method_1_code_36 rfl (Ls' := #[(.val (.ref b)), (.val (.int (6 : Int32))), (.val (.int ((0 : Int32) + (1 : Int32))))]) rfl rfl ?_
  refine go_ls (Ls' := #[(.val (.ref b)), (.val (.int (6 : Int32))), (.val (.int (1 : Int32)))]) (by rw [show ((0 : Int32) + (1 : Int32)) = (1 : Int32) from by decide]) ?_
  refine go_goto C (pc' := 21) dc_prog_51_method_1_code_39 (by decide) (by decide) ?_
  refine go_iloadN C (pc' := 22) dc_prog_51_method_1_code_21 rfl rfl ?_
  refine go_iloadN C (pc' := 23) dc_prog_51_method_1_code_22 rfl rfl ?_
  refine go_icmpNo C (pc' := 26) dc_prog_51_method_1_code_23 (by decide) rfl ?_
  refine go_aloadN C (pc' := 27) dc_prog_51_method_1_code_26 rfl rfl rfl ?_
  refine go_getF C (pc' := 30) (host := "") (Or.inl (wd_12 hw)) Via.refl ((((F2.ext E3).other W4 (Or.inr (slot_ne (a0 := a0) (Or.inr (wd_13 hw)) (Or.inr (wd_16 hw)) (by decide) (t := (.array (.array .int))) (t' := (.array .int)) (by decide) (by decide)))).ext E5).other W6 (Or.inl ne_b_b1)) dc_prog_51_method_1_code_27 rfl ?_
  refine go_iloadN C (pc' := 31) dc_prog_51_method_1_code_30 rfl rfl ?_
  refine go_bipush C (pc' := 33) dc_prog_51_method_1_code_31 (z := (16 : Int32)) (by decide) rfl ?_
  refine go_newPE C (pc' := 35) (len := 16) (ty := .int) rfl (ad := "[I") rfl (wd_14 hw) dc_prog_51_method_1_code_33 rfl (by decide) (by decide) (by decide) (by decide) (by decide) ?_
  intro h7 b7 k7 g7 n7 E7 A7 X7
  have sz_b7 := Nat.le_trans (Nat.le_trans (Nat.le_trans (Nat.le_trans (Nat.le_trans (Nat.le_trans (Nat.le_trans (Nat.le_refl _) E1.1) (Nat.le_of_eq W2.size.symm)) E3.1) (Nat.le_of_eq W4.size.symm)) E5.1) (Nat.le_of_eq W6.size.symm)) (Nat.le_of_eq g7.symm)
  have ne_b_b7 : b ≠ b7 := Nat.ne_of_lt (by rw [g7]; exact ((((((E_b.ext E1).wr W2).ext E3).wr W4).ext E5).wr W6).lt)
  have ne_b1_b7 : b1 ≠ b7 := Nat.ne_of_lt (by rw [g7]; exact A6.lt)
  have ne_b3_b7 : b3 ≠ b7 := Nat.ne_of_lt (by rw [g7]; exact (((A3.other W4 (Ne.symm ne_b_b3)).ext E5).other W6 (Ne.symm ne_b1_b3)).lt)
  have ne_b5_b7 : b5 ≠ b7 := Nat.ne_of_lt (by rw [g7]; exact (A5.other W6 (Ne.symm ne_b1_b5)).lt)
  refine go_aaset C (pc' := 36) (A6.ext E7) V1 (Ins.self X7) (by decide) (i := 1) (by decide) (by simp) (vs' := [(.ref b5), (.ref b7), .null, .null, .null, .null]) rfl dc_prog_51_method_1_code_35 rfl n1 ?_
  intro h8 W8 A8
  refine go_iinc C (pc' := 39) dc_prog_51_method_1_code_36 rfl (Ls' := #[(.val (.ref b)), (.val (.int (6 : Int32))), (.val (.int ((1 : Int32) + (1 : Int32))))]) rfl rfl ?_
  refine go_ls (Ls' := #[(.val (.ref b)), (.val (.int (6 : Int32))), (.val (.int (2 : Int32)))]) (by rw [show ((1 : Int32) + (1 : Int32)) = (2 : Int32) from by decide]) ?_
  refine go_goto C (pc' := 21) dc_prog_51_method_1_code_39 (by decide) (by decide) ?_
  refine go_iloadN C (pc' := 22) dc_prog_51_method_1_code_21 rfl rfl ?_
  refine go_iloadN C (pc' := 23) dc_prog_51_method_1_code_22 rfl rfl ?_
  refine go_icmpNo C (pc' := 26) dc_prog_51_method_1_code_23 (by decide) rfl ?_
  refine go_aloadN C (pc' := 27) dc_prog_51_method_1_code_26 rfl rfl rfl ?_
  refine go_getF C (pc' := 30) (host := "") (Or.inl (wd_12 hw)) Via.refl ((((((F2.ext E3).other W4 (Or.inr (slot_ne (a0 := a0) (Or.inr (wd_13 hw)) (Or.inr (wd_16 hw)) (by decide) (t := (.array (.array .int))) (t' := (.array .int)) (by decide) (by decide)))).ext E5).other W6 (Or.inl ne_b_b1)).ext E7).other W8 (Or.inl ne_b_b1)) dc_prog_51_method_1_code_27 rfl ?_
  refine go_iloadN C (pc' := 31) dc_prog_51_method_1_code_30 rfl rfl ?_
  refine go_bipush C (pc' := 33) dc_prog_51_method_1_code_31 (z := (16 : Int32)) (by decide) rfl ?_
  refine go_newPE C (pc' := 35) (len := 16) (ty := .int) rfl (ad := "[I") rfl (wd_14 hw) dc_prog_51_method_1_code_33 rfl (by decide) (by decide) (by decide) (by decide) (by decide) ?_
  intro h9 b9 k9 g9 n9 E9 A9 X9
  have sz_b9 := Nat.le_trans (Nat.le_trans (Nat.le_trans (Nat.le_trans (Nat.le_trans (Nat.le_trans (Nat.le_trans (Nat.le_trans (Nat.le_trans (Nat.le_refl _) E1.1) (Nat.le_of_eq W2.size.symm)) E3.1) (Nat.le_of_eq W4.size.symm)) E5.1) (Nat.le_of_eq W6.size.symm)) E7.1) (Nat.le_of_eq W8.size.symm)) (Nat.le_of_eq g9.symm)
  have ne_b_b9 : b ≠ b9 := Nat.ne_of_lt (by rw [g9]; exact ((((((((E_b.ext E1).wr W2).ext E3).wr W4).ext E5).wr W6).ext E7).wr W8).lt)
  have ne_b1_b9 : b1 ≠ b9 := Nat.ne_of_lt (by rw [g9]; exact A8.lt)
  have ne_b3_b9 : b3 ≠ b9 := Nat.ne_of_lt (by rw [g9]; exact (((((A3.other W4 (Ne.symm ne_b_b3)).ext E5).other W6 (Ne.symm ne_b1_b3)).ext E7).other W8 (Ne.symm ne_b1_b3)).lt)
  have ne_b5_b9 : b5 ≠ b9 := Nat.ne_of_lt (by rw [g9]; exact (((A5.other W6 (Ne.symm ne_b1_b5)).ext E7).other W8 (Ne.symm ne_b1_b5)).lt)
  have ne_b7_b9 : b7 ≠ b9 := Nat.ne_of_lt (by rw [g9]; exact (A7.other W8 (Ne.symm ne_b1_b7)).lt)
  refine go_aaset C (pc' := 36) (A8.ext E9) V1 (Ins.self X9) (by decide) (i := 2) (by decide) (by simp) (vs' := [(.ref b5), (.ref b7), (.ref b9), .null, .null, .null]) rfl dc_prog_51_method_1_code_35 rfl n1 ?_
  intro h10 W10 A10
  refine go_iinc C (pc' := 39) dc_prog_51_method_1_code_36 rfl (Ls' := #[(.val (.ref b)), (.val (.int (6 : Int32))), (.val (.int ((2 : Int32) + (1 : Int32))))]) rfl rfl ?_
  refine go_ls (Ls' := #[(.val (.ref b)), (.val (.int (6 : Int32))), (.val (.int (3 : Int32)))]) (by rw [show ((2 : Int32) + (1 : Int32)) = (3 : Int32) from by decide]) ?_
  refine go_goto C (pc' := 21) dc_prog_51_method_1_code_39 (by decide) (by decide) ?_
  refine go_iloadN C (pc' := 22) dc_prog_51_method_1_code_21 rfl rfl ?_
  refine go_iloadN C (pc' := 23) dc_prog_51_method_1_code_22 rfl rfl ?_
  refine go_icmpNo C (pc' := 26) dc_prog_51_method_1_code_23 (by decide) rfl ?_
  refine go_aloadN C (pc' := 27) dc_prog_51_method_1_code_26 rfl rfl rfl ?_
  refine go_getF C (pc' := 30) (host := "") (Or.inl (wd_12 hw)) Via.refl ((((((((F2.ext E3).other W4 (Or.inr (slot_ne (a0 := a0) (Or.inr (wd_13 hw)) (Or.inr (wd_16 hw)) (by decide) (t := (.array (.array .int))) (t' := (.array .int)) (by decide) (by decide)))).ext E5).other W6 (Or.inl ne_b_b1)).ext E7).other W8 (Or.inl ne_b_b1)).ext E9).other W10 (Or.inl ne_b_b1)) dc_prog_51_method_1_code_27 rfl ?_
  refine go_iloadN C (pc' := 31) dc_prog_51_method_1_code_30 rfl rfl ?_
  refine go_bipush C (pc' := 33) dc_prog_51_method_1_code_31 (z := (16 : Int32)) (by decide) rfl ?_
  refine go_newPE C (pc' := 35) (len := 16) (ty := .int) rfl (ad := "[I") rfl (wd_14 hw) dc_prog_51_method_1_code_33 rfl (by decide) (by decide) (by decide) (by decide) (by decide) ?_
  intro h11 b11 k11 g11 n11 E11 A11 X11
  have sz_b11 := Nat.le_trans (Nat.le_trans (Nat.le_trans (Nat.le_trans (Nat.le_trans (Nat.le_trans (Nat.le_trans (Nat.le_trans (Nat.le_trans (Nat.le_trans (Nat.le_trans (Nat.le_refl _) E1.1) (Nat.le_of_eq W2.size.symm)) E3.1) (Nat.le_of_eq W4.size.symm)) E5.1) (Nat.le_of_eq W6.size.symm)) E7.1) (Nat.le_of_eq W8.size.symm)) E9.1) (Nat.le_of_eq W10.size.symm)) (Nat.le_of_eq g11.symm)
  have ne_b_b11 : b ≠ b11 := Nat.ne_of_lt (by rw [g11]; exact ((((((((((E_b.ext E1).wr W2).ext E3).wr W4).ext E5).wr W6).ext E7).wr W8).ext E9).wr W10).lt)
  have ne_b1_b11 : b1 ≠ b11 := Nat.ne_of_lt (by rw [g11]; exact A10.lt)
  have ne_b3_b11 : b3 ≠ b11 := Nat.ne_of_lt (by rw [g11]; exact (((((((A3.other W4 (Ne.symm ne_b_b3)).ext E5).other W6 (Ne.symm ne_b1_b3)).ext E7).other W8 (Ne.symm ne_b1_b3)).ext E9).other W10 (Ne.symm ne_b1_b3)).lt)
  have ne_b5_b11 : b5 ≠ b11 := Nat.ne_of_lt (by rw [g11]; exact (((((A5.other W6 (Ne.symm ne_b1_b5)).ext E7).other W8 (Ne.symm ne_b1_b5)).ext E9).other W10 (Ne.symm ne_b1_b5)).lt)
  have ne_b7_b11 : b7 ≠ b11 := Nat.ne_of_lt (by rw [g11]; exact (((A7.other W8 (Ne.symm ne_b1_b7)).ext E9).other W10 (Ne.symm ne_b1_b7)).lt)
  have ne_b9_b11 : b9 ≠ b11 := Nat.ne_of_lt (by rw [g11]; exact (A9.other W10 (Ne.symm ne_b1_b9)).lt)
  refine go_aaset C (pc' := 36) (A10.ext E11) V1 (Ins.self X11) (by decide) (i := 3) (by decide) (by simp) (vs' := [(.ref b5), (.ref b7), (.ref b9), (.ref b11), .null, .null]) rfl dc_prog_51_method_1_code_35 rfl n1 ?_
  intro h12 W12 A12
  refine go_iinc C (pc' := 39) dc_prog_51_method_1_code_36 rfl (Ls' := #[(.val (.ref b)), (.val (.int (6 : Int32))), (.val (.int ((3 : Int32) + (1 : Int32))))]) rfl rfl ?_
  refine go_ls (Ls' := #[(.val (.ref b)), (.val (.int (6 : Int32))), (.val (.int (4 : Int32)))]) (by rw [show ((3 : Int32) + (1 : Int32)) = (4 : Int32) from by decide]) ?_
  refine go_goto C (pc' := 21) dc_prog_51_method_1_code_39 (by decide) (by decide) ?_
  refine go_iloadN C (pc' := 22) dc_prog_51_method_1_code_21 rfl rfl ?_
  refine go_iloadN C (pc' := 23) dc_prog_51_method_1_code_22 rfl rfl ?_
  refine go_icmpNo C (pc' := 26) dc_prog_51_method_1_code_23 (by decide) rfl ?_
  refine go_aloadN C (pc' := 27) dc_prog_51_method_1_code_26 rfl rfl rfl ?_
  refine go_getF C (pc' := 30) (host := "") (Or.inl (wd_12 hw)) Via.refl ((((((((((F2.ext E3).other W4 (Or.inr (slot_ne (a0 := a0) (Or.inr (wd_13 hw)) (Or.inr (wd_16 hw)) (by decide) (t := (.array (.array .int))) (t' := (.array .int)) (by decide) (by decide)))).ext E5).other W6 (Or.inl ne_b_b1)).ext E7).other W8 (Or.inl ne_b_b1)).ext E9).other W10 (Or.inl ne_b_b1)).ext E11).other W12 (Or.inl ne_b_b1)) dc_prog_51_method_1_code_27 rfl ?_
  refine go_iloadN C (pc' := 31) dc_prog_51_method_1_code_30 rfl rfl ?_
  refine go_bipush C (pc' := 33) dc_prog_51_method_1_code_31 (z := (16 : Int32)) (by decide) rfl ?_
  refine go_newPE C (pc' := 35) (len := 16) (ty := .int) rfl (ad := "[I") rfl (wd_14 hw) dc_prog_51_method_1_code_33 rfl (by decide) (by decide) (by decide) (by decide) (by decide) ?_
  intro h13 b13 k13 g13 n13 E13 A13 X13
  have sz_b13 := Nat.le_trans (Nat.le_trans (Nat.le_trans (Nat.le_trans (Nat.le_trans (Nat.le_trans (Nat.le_trans (Nat.le_trans (Nat.le_trans (Nat.le_trans (Nat.le_trans (Nat.le_trans (Nat.le_trans (Nat.le_refl _) E1.1) (Nat.le_of_eq W2.size.symm)) E3.1) (Nat.le_of_eq W4.size.symm)) E5.1) (Nat.le_of_eq W6.size.symm)) E7.1) (Nat.le_of_eq W8.size.symm)) E9.1) (Nat.le_of_eq W10.size.symm)) E11.1) (Nat.le_of_eq W12.size.symm)) (Nat.le_of_eq g13.symm)
  have ne_b_b13 : b ≠ b13 := Nat.ne_of_lt (by rw [g13]; exact ((((((((((((E_b.ext E1).wr W2).ext E3).wr W4).ext E5).wr W6).ext E7).wr W8).ext E9).wr W10).ext E11).wr W12).lt)
  have ne_b1_b13 : b1 ≠ b13 := Nat.ne_of_lt (by rw [g13]; exact A12.lt)
  have ne_b3_b13 : b3 ≠ b13 := Nat.ne_of_lt (by rw [g13]; exact (((((((((A3.other W4 (Ne.symm ne_b_b3)).ext E5).other W6 (Ne.symm ne_b1_b3)).ext E7).other W8 (Ne.symm ne_b1_b3)).ext E9).other W10 (Ne.symm ne_b1_b3)).ext E11).other W12 (Ne.symm ne_b1_b3)).lt)
  have ne_b5_b13 : b5 ≠ b13 := Nat.ne_of_lt (by rw [g13]; exact (((((((A5.other W6 (Ne.symm ne_b1_b5)).ext E7).other W8 (Ne.symm ne_b1_b5)).ext E9).other W10 (Ne.symm ne_b1_b5)).ext E11).other W12 (Ne.symm ne_b1_b5)).lt)
  have ne_b7_b13 : b7 ≠ b13 := Nat.ne_of_lt (by rw [g13]; exact (((((A7.other W8 (Ne.symm ne_b1_b7)).ext E9).other W10 (Ne.symm ne_b1_b7)).ext E11).other W12 (Ne.symm ne_b1_b7)).lt)
  have ne_b9_b13 : b9 ≠ b13 := Nat.ne_of_lt (by rw [g13]; exact (((A9.other W10 (Ne.symm ne_b1_b9)).ext E11).other W12 (Ne.symm ne_b1_b9)).lt)
  have ne_b11_b13 : b11 ≠ b13 := Nat.ne_of_lt (by rw [g13]; exact (A11.other W12 (Ne.symm ne_b1_b11)).lt)
  refine go_aaset C (pc' := 36) (A12.ext E13) V1 (Ins.self X13) (by decide) (i := 4) (by decide) (by simp) (vs' := [(.ref b5), (.ref b7), (.ref b9), (.ref b11), (.ref b13), .null]) rfl dc_prog_51_method_1_code_35 rfl n1 ?_
  intro h14 W14 A14
  refine go_iinc C (pc' := 39) dc_prog_51_method_1_code_36 rfl (Ls' := #[(.val (.ref b)), (.val (.int (6 : Int32))), (.val (.int ((4 : Int32) + (1 : Int32))))]) rfl rfl ?_
  refine go_ls (Ls' := #[(.val (.ref b)), (.val (.int (6 : Int32))), (.val (.int (5 : Int32)))]) (by rw [show ((4 : Int32) + (1 : Int32)) = (5 : Int32) from by decide]) ?_
  refine go_goto C (pc' := 21) dc_prog_51_method_1_code_39 (by decide) (by decide) ?_
  refine go_iloadN C (pc' := 22) dc_prog_51_method_1_code_21 rfl rfl ?_
  refine go_iloadN C (pc' := 23) dc_prog_51_method_1_code_22 rfl rfl ?_
  refine go_icmpNo C (pc' := 26) dc_prog_51_method_1_code_23 (by decide) rfl ?_
  refine go_aloadN C (pc' := 27) dc_prog_51_method_1_code_26 rfl rfl rfl ?_
  refine go_getF C (pc' := 30) (host := "") (Or.inl (wd_12 hw)) Via.refl ((((((((((((F2.ext E3).other W4 (Or.inr (slot_ne (a0 := a0) (Or.inr (wd_13 hw)) (Or.inr (wd_16 hw)) (by decide) (t := (.array (.array .int))) (t' := (.array .int)) (by decide) (by decide)))).ext E5).other W6 (Or.inl ne_b_b1)).ext E7).other W8 (Or.inl ne_b_b1)).ext E9).other W10 (Or.inl ne_b_b1)).ext E11).other W12 (Or.inl ne_b_b1)).ext E13).other W14 (Or.inl ne_b_b1)) dc_prog_51_method_1_code_27 rfl ?_
  refine go_iloadN C (pc' := 31) dc_prog_51_method_1_code_30 rfl rfl ?_
  refine go_bipush C (pc' := 33) dc_prog_51_method_1_code_31 (z := (16 : Int32)) (by decide) rfl ?_
  refine go_newPE C (pc' := 35) (len := 16) (ty := .int) rfl (ad := "[I") rfl (wd_14 hw) dc_prog_51_method_1_code_33 rfl (by decide) (by decide) (by decide) (by decide) (by decide) ?_
  intro h15 b15 k15 g15 n15 E15 A15 X15
  have sz_b15 := Nat.le_trans (Nat.le_trans (Nat.le_trans (Nat.le_trans (Nat.le_trans (Nat.le_trans (Nat.le_trans (Nat.le_trans (Nat.le_trans (Nat.le_trans (Nat.le_trans (Nat.le_trans (Nat.le_trans (Nat.le_trans (Nat.le_trans (Nat.le_refl _) E1.1) (Nat.le_of_eq W2.size.symm)) E3.1) (Nat.le_of_eq W4.size.symm)) E5.1) (Nat.le_of_eq W6.size.symm)) E7.1) (Nat.le_of_eq W8.size.symm)) E9.1) (Nat.le_of_eq W10.size.symm)) E11.1) (Nat.le_of_eq W12.size.symm)) E13.1) (Nat.le_of_eq W14.size.symm)) (Nat.le_of_eq g15.symm)
  have ne_b_b15 : b ≠ b15 := Nat.ne_of_lt (by rw [g15]; exact ((((((((((((((E_b.ext E1).wr W2).ext E3).wr W4).ext E5).wr W6).ext E7).wr W8).ext E9).wr W10).ext E11).wr W12).ext E13).wr W14).lt)
  have ne_b1_b15 : b1 ≠ b15 := Nat.ne_of_lt (by rw [g15]; exact A14.lt)
  have ne_b3_b15 : b3 ≠ b15 := Nat.ne_of_lt (by rw [g15]; exact (((((((((((A3.other W4 (Ne.symm ne_b_b3)).ext E5).other W6 (Ne.symm ne_b1_b3)).ext E7).other W8 (Ne.symm ne_b1_b3)).ext E9).other W10 (Ne.symm ne_b1_b3)).ext E11).other W12 (Ne.symm ne_b1_b3)).ext E13).other W14 (Ne.symm ne_b1_b3)).lt)
  have ne_b5_b15 : b5 ≠ b15 := Nat.ne_of_lt (by rw [g15]; exact (((((((((A5.other W6 (Ne.symm ne_b1_b5)).ext E7).other W8 (Ne.symm ne_b1_b5)).ext E9).other W10 (Ne.symm ne_b1_b5)).ext E11).other W12 (Ne.symm ne_b1_b5)).ext E13).other W14 (Ne.symm ne_b1_b5)).lt)
  have ne_b7_b15 : b7 ≠ b15 := Nat.ne_of_lt (by rw [g15]; exact (((((((A7.other W8 (Ne.symm ne_b1_b7)).ext E9).other W10 (Ne.symm ne_b1_b7)).ext E11).other W12 (Ne.symm ne_b1_b7)).ext E13).other W14 (Ne.symm ne_b1_b7)).lt)
  have ne_b9_b15 : b9 ≠ b15 := Nat.ne_of_lt (by rw [g15]; exact (((((A9.other W10 (Ne.symm ne_b1_b9)).ext E11).other W12 (Ne.symm ne_b1_b9)).ext E13).other W14 (Ne.symm ne_b1_b9)).lt)
  have ne_b11_b15 : b11 ≠ b15 := Nat.ne_of_lt (by rw [g15]; exact (((A11.other W12 (Ne.symm ne_b1_b11)).ext E13).other W14 (Ne.symm ne_b1_b11)).lt)
  have ne_b13_b15 : b13 ≠ b15 := Nat.ne_of_lt (by rw [g15]; exact (A13.other W14 (Ne.symm ne_b1_b13)).lt)
  refine go_aaset C (pc' := 36) (A14.ext E15) V1 (Ins.self X15) (by decide) (i := 5) (by decide) (by simp) (vs' := [(.ref b5), (.ref b7), (.ref b9), (.ref b11), (.ref b13), (.ref b15)]) rfl dc_prog_51_method_1_code_35 rfl n1 ?_
  intro h16 W16 A16
  refine go_iinc C (pc' := 39) dc_prog_51_method_1_code_36 rfl (Ls' := #[(.val (.ref b)), (.val (.int (6 : Int32))), (.val (.int ((5 : Int32) + (1 : Int32))))]) rfl rfl ?_
  refine go_ls (Ls' := #[(.val (.ref b)), (.val (.int (6 : Int32))), (.val (.int (6 : Int32)))]) (by rw [show ((5 : Int32) + (1 : Int32)) = (6 : Int32) from by decide]) ?_
  refine go_goto C (pc' := 21) dc_prog_51_method_1_code_39 (by decide) (by decide) ?_
  refine go_iloadN C (pc' := 22) dc_prog_51_method_1_code_21 rfl rfl ?_
  refine go_iloadN C (pc' := 23) dc_prog_51_method_1_code_22 rfl rfl ?_
  refine go_icmpYes C (pc' := 42) dc_prog_51_method_1_code_23 (by decide) (by decide) (by decide) ?_
  exact go_ret0 C dc_prog_51_method_1_code_42 (by decide) (by decide) ⟨rfl, ⟨b1, b3, k1, _, (fun i => ([b5, b7, b9, b11, b13, b15] : List Addr).getD i 0), (fun i => ([k5, k7, k9, k11, k13, k15] : List ClassId).getD i 0), _, _, (fun _ => List.replicate 16 (.int 0)), ((((((((((((((((E_b.ext E1).wr W2).ext E3).wr W4).ext E5).wr W6).ext E7).wr W8).ext E9).wr W10).ext E11).wr W12).ext E13).wr W14).ext E15).wr W16), ((((((((((((((F2.ext E3).other W4 (Or.inr (slot_ne (a0 := a0) (Or.inr (wd_13 hw)) (Or.inr (wd_16 hw)) (by decide) (t := (.array (.array .int))) (t' := (.array .int)) (by decide) (by decide)))).ext E5).other W6 (Or.inl ne_b_b1)).ext E7).other W8 (Or.inl ne_b_b1)).ext E9).other W10 (Or.inl ne_b_b1)).ext E11).other W12 (Or.inl ne_b_b1)).ext E13).other W14 (Or.inl ne_b_b1)).ext E15).other W16 (Or.inl ne_b_b1)), ((((((((((((F4.ext E5).other W6 (Or.inl ne_b_b1)).ext E7).other W8 (Or.inl ne_b_b1)).ext E9).other W10 (Or.inl ne_b_b1)).ext E11).other W12 (Or.inl ne_b_b1)).ext E13).other W14 (Or.inl ne_b_b1)).ext E15).other W16 (Or.inl ne_b_b1)), ((((((((((((((((F_b_lowest.ext E1).other W2 (Or.inr (slot_ne (a0 := a0) (Or.inl (wd_36 hw)) (Or.inr (wd_13 hw)) (by decide) (t := .long) (t' := (.array (.array .int))) (by decide) (by decide)))).ext E3).other W4 (Or.inr (slot_ne (a0 := a0) (Or.inl (wd_36 hw)) (Or.inr (wd_16 hw)) (by decide) (t := .long) (t' := (.array .int)) (by decide) (by decide)))).ext E5).other W6 (Or.inl ne_b_b1)).ext E7).other W8 (Or.inl ne_b_b1)).ext E9).other W10 (Or.inl ne_b_b1)).ext E11).other W12 (Or.inl ne_b_b1)).ext E13).other W14 (Or.inl ne_b_b1)).ext E15).other W16 (Or.inl ne_b_b1)), ((((((((((((((((F_b_size.ext E1).other W2 (Or.inr (slot_ne (a0 := a0) (Or.inl (wd_24 hw)) (Or.inr (wd_13 hw)) (by decide) (t := .long) (t' := (.array (.array .int))) (by decide) (by decide)))).ext E3).other W4 (Or.inr (slot_ne (a0 := a0) (Or.inl (wd_24 hw)) (Or.inr (wd_16 hw)) (by decide) (t := .long) (t' := (.array .int)) (by decide) (by decide)))).ext E5).other W6 (Or.inl ne_b_b1)).ext E7).other W8 (Or.inl ne_b_b1)).ext E9).other W10 (Or.inl ne_b_b1)).ext E11).other W12 (Or.inl ne_b_b1)).ext E13).other W14 (Or.inl ne_b_b1)).ext E15).other W16 (Or.inl ne_b_b1)), A16, rfl, (fun i hi => by match i, hi with | 0, _ => rfl | 1, _ => rfl | 2, _ => rfl | 3, _ => rfl | 4, _ => rfl | 5, _ => rfl), (((((((((((((A3.other W4 (Ne.symm ne_b_b3)).ext E5).other W6 (Ne.symm ne_b1_b3)).ext E7).other W8 (Ne.symm ne_b1_b3)).ext E9).other W10 (Ne.symm ne_b1_b3)).ext E11).other W12 (Ne.symm ne_b1_b3)).ext E13).other W14 (Ne.symm ne_b1_b3)).ext E15).other W16 (Ne.symm ne_b1_b3)), rfl, (fun i hi => by match i, hi with | 0, _ => rfl | 1, _ => rfl | 2, _ => rfl | 3, _ => rfl | 4, _ => rfl | 5, _ => rfl), (fun i hi => by match i, hi with | 0, _ => exact (((((((((((A5.other W6 (Ne.symm ne_b1_b5)).ext E7).other W8 (Ne.symm ne_b1_b5)).ext E9).other W10 (Ne.symm ne_b1_b5)).ext E11).other W12 (Ne.symm ne_b1_b5)).ext E13).other W14 (Ne.symm ne_b1_b5)).ext E15).other W16 (Ne.symm ne_b1_b5)) | 1, _ => exact (((((((((A7.other W8 (Ne.symm ne_b1_b7)).ext E9).other W10 (Ne.symm ne_b1_b7)).ext E11).other W12 (Ne.symm ne_b1_b7)).ext E13).other W14 (Ne.symm ne_b1_b7)).ext E15).other W16 (Ne.symm ne_b1_b7)) | 2, _ => exact (((((((A9.other W10 (Ne.symm ne_b1_b9)).ext E11).other W12 (Ne.symm ne_b1_b9)).ext E13).other W14 (Ne.symm ne_b1_b9)).ext E15).other W16 (Ne.symm ne_b1_b9)) | 3, _ => exact (((((A11.other W12 (Ne.symm ne_b1_b11)).ext E13).other W14 (Ne.symm ne_b1_b11)).ext E15).other W16 (Ne.symm ne_b1_b11)) | 4, _ => exact (((A13.other W14 (Ne.symm ne_b1_b13)).ext E15).other W16 (Ne.symm ne_b1_b13)) | 5, _ => exact (A15.other W16 (Ne.symm ne_b1_b15))), (fun i hi => rfl), (fun i hi j x hx => by simp at hx), ⟨(Ne.symm ne_b_b1), (Ne.symm ne_b_b3), (Ne.symm ne_b1_b3), (fun i hi => by match i, hi with | 0, _ => exact ⟨(Ne.symm ne_b_b5), (Ne.symm ne_b1_b5), (Ne.symm ne_b3_b5)⟩ | 1, _ => exact ⟨(Ne.symm ne_b_b7), (Ne.symm ne_b1_b7), (Ne.symm ne_b3_b7)⟩ | 2, _ => exact ⟨(Ne.symm ne_b_b9), (Ne.symm ne_b1_b9), (Ne.symm ne_b3_b9)⟩ | 3, _ => exact ⟨(Ne.symm ne_b_b11), (Ne.symm ne_b1_b11), (Ne.symm ne_b3_b11)⟩ | 4, _ => exact ⟨(Ne.symm ne_b_b13), (Ne.symm ne_b1_b13), (Ne.symm ne_b3_b13)⟩ | 5, _ => exact ⟨(Ne.symm ne_b_b15), (Ne.symm ne_b1_b15), (Ne.symm ne_b3_b15)⟩), (fun i j hi hj hij => by match i, hi, j, hj with | 0, _, 0, _ => exact absurd rfl hij | 0, _, 1, _ => exact ne_b5_b7 | 0, _, 2, _ => exact ne_b5_b9 | 0, _, 3, _ => exact ne_b5_b11 | 0, _, 4, _ => exact ne_b5_b13 | 0, _, 5, _ => exact ne_b5_b15 | 1, _, 0, _ => exact (Ne.symm ne_b5_b7) | 1, _, 1, _ => exact absurd rfl hij | 1, _, 2, _ => exact ne_b7_b9 | 1, _, 3, _ => exact ne_b7_b11 | 1, _, 4, _ => exact ne_b7_b13 | 1, _, 5, _ => exact ne_b7_b15 | 2, _, 0, _ => exact (Ne.symm ne_b5_b9) | 2, _, 1, _ => exact (Ne.symm ne_b7_b9) | 2, _, 2, _ => exact absurd rfl hij | 2, _, 3, _ => exact ne_b9_b11 | 2, _, 4, _ => exact ne_b9_b13 | 2, _, 5, _ => exact ne_b9_b15 | 3, _, 0, _ => exact (Ne.symm ne_b5_b11) | 3, _, 1, _ => exact (Ne.symm ne_b7_b11) | 3, _, 2, _ => exact (Ne.symm ne_b9_b11) | 3, _, 3, _ => exact absurd rfl hij | 3, _, 4, _ => exact ne_b11_b13 | 3, _, 5, _ => exact ne_b11_b15 | 4, _, 0, _ => exact (Ne.symm ne_b5_b13) | 4, _, 1, _ => exact (Ne.symm ne_b7_b13) | 4, _, 2, _ => exact (Ne.symm ne_b9_b13) | 4, _, 3, _ => exact (Ne.symm ne_b11_b13) | 4, _, 4, _ => exact absurd rfl hij | 4, _, 5, _ => exact ne_b13_b15 | 5, _, 0, _ => exact (Ne.symm ne_b5_b15) | 5, _, 1, _ => exact (Ne.symm ne_b7_b15) | 5, _, 2, _ => exact (Ne.symm ne_b9_b15) | 5, _, 3, _ => exact (Ne.symm ne_b11_b15) | 5, _, 4, _ => exact (Ne.symm ne_b13_b15) | 5, _, 5, _ => exact absurd rfl hij)⟩, nb, n1, n3, (fun i hi => by match i, hi with | 0, _ => exact n5 | 1, _ => exact n7 | 2, _ => exact n9 | 3, _ => exact n11 | 4, _ => exact n13 | 5, _ => exact n15)⟩⟩
set_option maxRecDepth 65536 in
set_option maxHeartbeats 4000000 in
theorem init_5 (l : Launch) (Z : State) (a0 : Array Value) (hw : ∀ d ∈ tables_1, d.before a0 Z = true) (n0 : Nat) (h : Heap) (O : Old Z n0 h) (b : Addr) (E_b : Exa Z h b "com/example/invariant/invariant/check/BucketQueue") (F_b_buckets : Fld Z h b "com/example/invariant/invariant/check/BucketQueue" "buckets" "[[I" .null) (F_b_counts : Fld Z h b "com/example/invariant/invariant/check/BucketQueue" "counts" "[I" .null) (F_b_lowest : Fld Z h b "com/example/invariant/invariant/check/BucketQueue" "lowest" "J" (.long (0 : Int64))) (F_b_size : Fld Z h b "com/example/invariant/invariant/check/BucketQueue" "size" "J" (.long (0 : Int64))) (nb : n0 ≤ b) :
    Met l Z n0 (⟨"com/example/invariant/invariant/check/BucketQueue", "<init>", "(I)V"⟩ : MethodName) prog_51_method_1_code 3 none [] ({ frames := 1, cells := 10, slots := 144, locals := 12 } : Room) #[(.ref b), (.int (5 : Int32))] h (fun v h' => v = none ∧ QAt Z h' n0 b 5 (fun _ => []) 0 0) := by
  refine met_of (Ls := #[(.val (.ref b)), (.val (.int (5 : Int32))), .unset]) (by decide +kernel) (fun m => by first | (simp [entryFrame, mkF, argsToLocals, Value.category]; done) | rfl) O ?_
  intro p e s m below meth cd C
  refine go_aloadN C (pc' := 1) dc_prog_51_method_1_code_0 rfl rfl rfl ?_
  refine go_initO C (pc' := 4) (wd_7 hw) (wd_8 hw) (wd_9 hw) rfl dc_prog_51_method_1_code_1 rfl (by decide) (by decide) ?_
  refine go_aloadN C (pc' := 5) dc_prog_51_method_1_code_4 rfl rfl rfl ?_
  refine go_iloadN C (pc' := 6) dc_prog_51_method_1_code_5 rfl rfl ?_
  refine go_newAA C (pc' := 9) (len := 5) (ty := .int) rfl (ad := "[[I") rfl (wd_10 hw) (wd_11 hw) dc_prog_51_method_1_code_6 rfl (by decide) (by decide) (by decide) (by decide) (by decide) ?_
  intro h1 b1 k1 g1 n1 E1 A1 V1 X1
  have sz_b1 := Nat.le_trans (Nat.le_refl _) (Nat.le_of_eq g1.symm)
  have ne_b_b1 : b ≠ b1 := Nat.ne_of_lt (by rw [g1]; exact E_b.lt)
  refine go_putF C (pc' := 12) (host := "") (Or.inl (wd_12 hw)) Via.refl (F_b_buckets.ext E1) (E_b.ext E1) (Or.inr ⟨(wd_13 hw), rfl, rfl⟩) (wd_2 hw) (ty := (.array (.array .int))) (by decide) rfl rfl dc_prog_51_method_1_code_9 rfl nb ?_
  intro h2 W2 F2
  refine go_aloadN C (pc' := 13) dc_prog_51_method_1_code_12 rfl rfl rfl ?_
  refine go_iloadN C (pc' := 14) dc_prog_51_method_1_code_13 rfl rfl ?_
  refine go_newPA C (pc' := 16) (len := 5) (ty := .int) rfl (wd_14 hw) dc_prog_51_method_1_code_14 rfl (by decide) (by decide) (by decide) (by decide) (by decide) ?_
  intro h3 b3 k3 g3 n3 E3 A3
  have sz_b3 := Nat.le_trans (Nat.le_trans (Nat.le_trans (Nat.le_refl _) E1.1) (Nat.le_of_eq W2.size.symm)) (Nat.le_of_eq g3.symm)
  have ne_b_b3 : b ≠ b3 := Nat.ne_of_lt (by rw [g3]; exact ((E_b.ext E1).wr W2).lt)
  have ne_b1_b3 : b1 ≠ b3 := Nat.ne_of_lt (by rw [g3]; exact (A1.other W2 (Ne.symm ne_b_b1)).lt)
  refine go_putF C (pc' := 19) (host := "") (Or.inl (wd_15 hw)) Via.refl (((F_b_counts.ext E1).other W2 (Or.inr (slot_ne (a0 := a0) (Or.inr (wd_16 hw)) (Or.inr (wd_13 hw)) (by decide) (t := (.array .int)) (t' := (.array (.array .int))) (by decide) (by decide)))).ext E3) (((E_b.ext E1).wr W2).ext E3) (Or.inr ⟨(wd_16 hw), rfl, rfl⟩) (wd_2 hw) (ty := (.array .int)) (by decide) rfl rfl dc_prog_51_method_1_code_16 rfl nb ?_
  intro h4 W4 F4
  refine go_iconst C (pc' := 20) dc_prog_51_method_1_code_19 (z := (0 : Int32)) (by decide) rfl ?_
  refine go_istoreN C (pc' := 21) dc_prog_51_method_1_code_20 (Ls' := #[(.val (.ref b)), (.val (.int (5 : Int32))), (.val (.int (0 : Int32)))]) rfl rfl ?_
  refine go_iloadN C (pc' := 22) dc_prog_51_method_1_code_21 rfl rfl ?_
  refine go_iloadN C (pc' := 23) dc_prog_51_method_1_code_22 rfl rfl ?_
  refine go_icmpNo C (pc' := 26) dc_prog_51_method_1_code_23 (by decide) rfl ?_
  refine go_aloadN C (pc' := 27) dc_prog_51_method_1_code_26 rfl rfl rfl ?_
  refine go_getF C (pc' := 30) (host := "") (Or.inl (wd_12 hw)) Via.refl ((F2.ext E3).other W4 (Or.inr (slot_ne (a0 := a0) (Or.inr (wd_13 hw)) (Or.inr (wd_16 hw)) (by decide) (t := (.array (.array .int))) (t' := (.array .int)) (by decide) (by decide)))) dc_prog_51_method_1_code_27 rfl ?_
  refine go_iloadN C (pc' := 31) dc_prog_51_method_1_code_30 rfl rfl ?_
  refine go_bipush C (pc' := 33) dc_prog_51_method_1_code_31 (z := (16 : Int32)) (by decide) rfl ?_
  refine go_newPE C (pc' := 35) (len := 16) (ty := .int) rfl (ad := "[I") rfl (wd_14 hw) dc_prog_51_method_1_code_33 rfl (by decide) (by decide) (by decide) (by decide) (by decide) ?_
  intro h5 b5 k5 g5 n5 E5 A5 X5
  have sz_b5 := Nat.le_trans (Nat.le_trans (Nat.le_trans (Nat.le_trans (Nat.le_trans (Nat.le_refl _) E1.1) (Nat.le_of_eq W2.size.symm)) E3.1) (Nat.le_of_eq W4.size.symm)) (Nat.le_of_eq g5.symm)
  have ne_b_b5 : b ≠ b5 := Nat.ne_of_lt (by rw [g5]; exact ((((E_b.ext E1).wr W2).ext E3).wr W4).lt)
  have ne_b1_b5 : b1 ≠ b5 := Nat.ne_of_lt (by rw [g5]; exact (((A1.other W2 (Ne.symm ne_b_b1)).ext E3).other W4 (Ne.symm ne_b_b1)).lt)
  have ne_b3_b5 : b3 ≠ b5 := Nat.ne_of_lt (by rw [g5]; exact (A3.other W4 (Ne.symm ne_b_b3)).lt)
  refine go_aaset C (pc' := 36) ((((A1.other W2 (Ne.symm ne_b_b1)).ext E3).other W4 (Ne.symm ne_b_b1)).ext E5) V1 (Ins.self X5) (by decide) (i := 0) (by decide) (by simp) (vs' := [(.ref b5), .null, .null, .null, .null]) rfl dc_prog_51_method_1_code_35 rfl n1 ?_
  intro h6 W6 A6
  refine go_iinc C (pc' := 39) dc_prog_51_method_1_code_36 rfl (Ls' := #[(.val (.ref b)), (.val (.int (5 : Int32))), (.val (.int ((0 : Int32) + (1 : Int32))))]) rfl rfl ?_
  refine go_ls (Ls' := #[(.val (.ref b)), (.val (.int (5 : Int32))), (.val (.int (1 : Int32)))]) (by rw [show ((0 : Int32) + (1 : Int32)) = (1 : Int32) from by decide]) ?_
  refine go_goto C (pc' := 21) dc_prog_51_method_1_code_39 (by decide) (by decide) ?_
  refine go_iloadN C (pc' := 22) dc_prog_51_method_1_code_21 rfl rfl ?_
  refine go_iloadN C (pc' := 23) dc_prog_51_method_1_code_22 rfl rfl ?_
  refine go_icmpNo C (pc' := 26) dc_prog_51_method_1_code_23 (by decide) rfl ?_
  refine go_aloadN C (pc' := 27) dc_prog_51_method_1_code_26 rfl rfl rfl ?_
  refine go_getF C (pc' := 30) (host := "") (Or.inl (wd_12 hw)) Via.refl ((((F2.ext E3).other W4 (Or.inr (slot_ne (a0 := a0) (Or.inr (wd_13 hw)) (Or.inr (wd_16 hw)) (by decide) (t := (.array (.array .int))) (t' := (.array .int)) (by decide) (by decide)))).ext E5).other W6 (Or.inl ne_b_b1)) dc_prog_51_method_1_code_27 rfl ?_
  refine go_iloadN C (pc' := 31) dc_prog_51_method_1_code_30 rfl rfl ?_
  refine go_bipush C (pc' := 33) dc_prog_51_method_1_code_31 (z := (16 : Int32)) (by decide) rfl ?_
  refine go_newPE C (pc' := 35) (len := 16) (ty := .int) rfl (ad := "[I") rfl (wd_14 hw) dc_prog_51_method_1_code_33 rfl (by decide) (by decide) (by decide) (by decide) (by decide) ?_
  intro h7 b7 k7 g7 n7 E7 A7 X7
  have sz_b7 := Nat.le_trans (Nat.le_trans (Nat.le_trans (Nat.le_trans (Nat.le_trans (Nat.le_trans (Nat.le_trans (Nat.le_refl _) E1.1) (Nat.le_of_eq W2.size.symm)) E3.1) (Nat.le_of_eq W4.size.symm)) E5.1) (Nat.le_of_eq W6.size.symm)) (Nat.le_of_eq g7.symm)
  have ne_b_b7 : b ≠ b7 := Nat.ne_of_lt (by rw [g7]; exact ((((((E_b.ext E1).wr W2).ext E3).wr W4).ext E5).wr W6).lt)
  have ne_b1_b7 : b1 ≠ b7 := Nat.ne_of_lt (by rw [g7]; exact A6.lt)
  have ne_b3_b7 : b3 ≠ b7 := Nat.ne_of_lt (by rw [g7]; exact (((A3.other W4 (Ne.symm ne_b_b3)).ext E5).other W6 (Ne.symm ne_b1_b3)).lt)
  have ne_b5_b7 : b5 ≠ b7 := Nat.ne_of_lt (by rw [g7]; exact (A5.other W6 (Ne.symm ne_b1_b5)).lt)
  refine go_aaset C (pc' := 36) (A6.ext E7) V1 (Ins.self X7) (by decide) (i := 1) (by decide) (by simp) (vs' := [(.ref b5), (.ref b7), .null, .null, .null]) rfl dc_prog_51_method_1_code_35 rfl n1 ?_
  intro h8 W8 A8
  refine go_iinc C (pc' := 39) dc_prog_51_method_1_code_36 rfl (Ls' := #[(.val (.ref b)), (.val (.int (5 : Int32))), (.val (.int ((1 : Int32) + (1 : Int32))))]) rfl rfl ?_
  refine go_ls (Ls' := #[(.val (.ref b)), (.val (.int (5 : Int32))), (.val (.int (2 : Int32)))]) (by rw [show ((1 : Int32) + (1 : Int32)) = (2 : Int32) from by decide]) ?_
  refine go_goto C (pc' := 21) dc_prog_51_method_1_code_39 (by decide) (by decide) ?_
  refine go_iloadN C (pc' := 22) dc_prog_51_method_1_code_21 rfl rfl ?_
  refine go_iloadN C (pc' := 23) dc_prog_51_method_1_code_22 rfl rfl ?_
  refine go_icmpNo C (pc' := 26) dc_prog_51_method_1_code_23 (by decide) rfl ?_
  refine go_aloadN C (pc' := 27) dc_prog_51_method_1_code_26 rfl rfl rfl ?_
  refine go_getF C (pc' := 30) (host := "") (Or.inl (wd_12 hw)) Via.refl ((((((F2.ext E3).other W4 (Or.inr (slot_ne (a0 := a0) (Or.inr (wd_13 hw)) (Or.inr (wd_16 hw)) (by decide) (t := (.array (.array .int))) (t' := (.array .int)) (by decide) (by decide)))).ext E5).other W6 (Or.inl ne_b_b1)).ext E7).other W8 (Or.inl ne_b_b1)) dc_prog_51_method_1_code_27 rfl ?_
  refine go_iloadN C (pc' := 31) dc_prog_51_method_1_code_30 rfl rfl ?_
  refine go_bipush C (pc' := 33) dc_prog_51_method_1_code_31 (z := (16 : Int32)) (by decide) rfl ?_
  refine go_newPE C (pc' := 35) (len := 16) (ty := .int) rfl (ad := "[I") rfl (wd_14 hw) dc_prog_51_method_1_code_33 rfl (by decide) (by decide) (by decide) (by decide) (by decide) ?_
  intro h9 b9 k9 g9 n9 E9 A9 X9
  have sz_b9 := Nat.le_trans (Nat.le_trans (Nat.le_trans (Nat.le_trans (Nat.le_trans (Nat.le_trans (Nat.le_trans (Nat.le_trans (Nat.le_trans (Nat.le_refl _) E1.1) (Nat.le_of_eq W2.size.symm)) E3.1) (Nat.le_of_eq W4.size.symm)) E5.1) (Nat.le_of_eq W6.size.symm)) E7.1) (Nat.le_of_eq W8.size.symm)) (Nat.le_of_eq g9.symm)
  have ne_b_b9 : b ≠ b9 := Nat.ne_of_lt (by rw [g9]; exact ((((((((E_b.ext E1).wr W2).ext E3).wr W4).ext E5).wr W6).ext E7).wr W8).lt)
  have ne_b1_b9 : b1 ≠ b9 := Nat.ne_of_lt (by rw [g9]; exact A8.lt)
  have ne_b3_b9 : b3 ≠ b9 := Nat.ne_of_lt (by rw [g9]; exact (((((A3.other W4 (Ne.symm ne_b_b3)).ext E5).other W6 (Ne.symm ne_b1_b3)).ext E7).other W8 (Ne.symm ne_b1_b3)).lt)
  have ne_b5_b9 : b5 ≠ b9 := Nat.ne_of_lt (by rw [g9]; exact (((A5.other W6 (Ne.symm ne_b1_b5)).ext E7).other W8 (Ne.symm ne_b1_b5)).lt)
  have ne_b7_b9 : b7 ≠ b9 := Nat.ne_of_lt (by rw [g9]; exact (A7.other W8 (Ne.symm ne_b1_b7)).lt)
  refine go_aaset C (pc' := 36) (A8.ext E9) V1 (Ins.self X9) (by decide) (i := 2) (by decide) (by simp) (vs' := [(.ref b5), (.ref b7), (.ref b9), .null, .null]) rfl dc_prog_51_method_1_code_35 rfl n1 ?_
  intro h10 W10 A10
  refine go_iinc C (pc' := 39) dc_prog_51_method_1_code_36 rfl (Ls' := #[(.val (.ref b)), (.val (.int (5 : Int32))), (.val (.int ((2 : Int32) + (1 : Int32))))]) rfl rfl ?_
  refine go_ls (Ls' := #[(.val (.ref b)), (.val (.int (5 : Int32))), (.val (.int (3 : Int32)))]) (by rw [show ((2 : Int32) + (1 : Int32)) = (3 : Int32) from by decide]) ?_
  refine go_goto C (pc' := 21) dc_prog_51_method_1_code_39 (by decide) (by decide) ?_
  refine go_iloadN C (pc' := 22) dc_prog_51_method_1_code_21 rfl rfl ?_
  refine go_iloadN C (pc' := 23) dc_prog_51_method_1_code_22 rfl rfl ?_
  refine go_icmpNo C (pc' := 26) dc_prog_51_method_1_code_23 (by decide) rfl ?_
  refine go_aloadN C (pc' := 27) dc_prog_51_method_1_code_26 rfl rfl rfl ?_
  refine go_getF C (pc' := 30) (host := "") (Or.inl (wd_12 hw)) Via.refl ((((((((F2.ext E3).other W4 (Or.inr (slot_ne (a0 := a0) (Or.inr (wd_13 hw)) (Or.inr (wd_16 hw)) (by decide) (t := (.array (.array .int))) (t' := (.array .int)) (by decide) (by decide)))).ext E5).other W6 (Or.inl ne_b_b1)).ext E7).other W8 (Or.inl ne_b_b1)).ext E9).other W10 (Or.inl ne_b_b1)) dc_prog_51_method_1_code_27 rfl ?_
  refine go_iloadN C (pc' := 31) dc_prog_51_method_1_code_30 rfl rfl ?_
  refine go_bipush C (pc' := 33) dc_prog_51_method_1_code_31 (z := (16 : Int32)) (by decide) rfl ?_
  refine go_newPE C (pc' := 35) (len := 16) (ty := .int) rfl (ad := "[I") rfl (wd_14 hw) dc_prog_51_method_1_code_33 rfl (by decide) (by decide) (by decide) (by decide) (by decide) ?_
  intro h11 b11 k11 g11 n11 E11 A11 X11
  have sz_b11 := Nat.le_trans (Nat.le_trans (Nat.le_trans (Nat.le_trans (Nat.le_trans (Nat.le_trans (Nat.le_trans (Nat.le_trans (Nat.le_trans (Nat.le_trans (Nat.le_trans (Nat.le_refl _) E1.1) (Nat.le_of_eq W2.size.symm)) E3.1) (Nat.le_of_eq W4.size.symm)) E5.1) (Nat.le_of_eq W6.size.symm)) E7.1) (Nat.le_of_eq W8.size.symm)) E9.1) (Nat.le_of_eq W10.size.symm)) (Nat.le_of_eq g11.symm)
  have ne_b_b11 : b ≠ b11 := Nat.ne_of_lt (by rw [g11]; exact ((((((((((E_b.ext E1).wr W2).ext E3).wr W4).ext E5).wr W6).ext E7).wr W8).ext E9).wr W10).lt)
  have ne_b1_b11 : b1 ≠ b11 := Nat.ne_of_lt (by rw [g11]; exact A10.lt)
  have ne_b3_b11 : b3 ≠ b11 := Nat.ne_of_lt (by rw [g11]; exact (((((((A3.other W4 (Ne.symm ne_b_b3)).ext E5).other W6 (Ne.symm ne_b1_b3)).ext E7).other W8 (Ne.symm ne_b1_b3)).ext E9).other W10 (Ne.symm ne_b1_b3)).lt)
  have ne_b5_b11 : b5 ≠ b11 := Nat.ne_of_lt (by rw [g11]; exact (((((A5.other W6 (Ne.symm ne_b1_b5)).ext E7).other W8 (Ne.symm ne_b1_b5)).ext E9).other W10 (Ne.symm ne_b1_b5)).lt)
  have ne_b7_b11 : b7 ≠ b11 := Nat.ne_of_lt (by rw [g11]; exact (((A7.other W8 (Ne.symm ne_b1_b7)).ext E9).other W10 (Ne.symm ne_b1_b7)).lt)
  have ne_b9_b11 : b9 ≠ b11 := Nat.ne_of_lt (by rw [g11]; exact (A9.other W10 (Ne.symm ne_b1_b9)).lt)
  refine go_aaset C (pc' := 36) (A10.ext E11) V1 (Ins.self X11) (by decide) (i := 3) (by decide) (by simp) (vs' := [(.ref b5), (.ref b7), (.ref b9), (.ref b11), .null]) rfl dc_prog_51_method_1_code_35 rfl n1 ?_
  intro h12 W12 A12
  refine go_iinc C (pc' := 39) dc_prog_51_method_1_code_36 rfl (Ls' := #[(.val (.ref b)), (.val (.int (5 : Int32))), (.val (.int ((3 : Int32) + (1 : Int32))))]) rfl rfl ?_
  refine go_ls (Ls' := #[(.val (.ref b)), (.val (.int (5 : Int32))), (.val (.int (4 : Int32)))]) (by rw [show ((3 : Int32) + (1 : Int32)) = (4 : Int32) from by decide]) ?_
  refine go_goto C (pc' := 21) dc_prog_51_method_1_code_39 (by decide) (by decide) ?_
  refine go_iloadN C (pc' := 22) dc_prog_51_method_1_code_21 rfl rfl ?_
  refine go_iloadN C (pc' := 23) dc_prog_51_method_1_code_22 rfl rfl ?_
  refine go_icmpNo C (pc' := 26) dc_prog_51_method_1_code_23 (by decide) rfl ?_
  refine go_aloadN C (pc' := 27) dc_prog_51_method_1_code_26 rfl rfl rfl ?_
  refine go_getF C (pc' := 30) (host := "") (Or.inl (wd_12 hw)) Via.refl ((((((((((F2.ext E3).other W4 (Or.inr (slot_ne (a0 := a0) (Or.inr (wd_13 hw)) (Or.inr (wd_16 hw)) (by decide) (t := (.array (.array .int))) (t' := (.array .int)) (by decide) (by decide)))).ext E5).other W6 (Or.inl ne_b_b1)).ext E7).other W8 (Or.inl ne_b_b1)).ext E9).other W10 (Or.inl ne_b_b1)).ext E11).other W12 (Or.inl ne_b_b1)) dc_prog_51_method_1_code_27 rfl ?_
  refine go_iloadN C (pc' := 31) dc_prog_51_method_1_code_30 rfl rfl ?_
  refine go_bipush C (pc' := 33) dc_prog_51_method_1_code_31 (z := (16 : Int32)) (by decide) rfl ?_
  refine go_newPE C (pc' := 35) (len := 16) (ty := .int) rfl (ad := "[I") rfl (wd_14 hw) dc_prog_51_method_1_code_33 rfl (by decide) (by decide) (by decide) (by decide) (by decide) ?_
  intro h13 b13 k13 g13 n13 E13 A13 X13
  have sz_b13 := Nat.le_trans (Nat.le_trans (Nat.le_trans (Nat.le_trans (Nat.le_trans (Nat.le_trans (Nat.le_trans (Nat.le_trans (Nat.le_trans (Nat.le_trans (Nat.le_trans (Nat.le_trans (Nat.le_trans (Nat.le_refl _) E1.1) (Nat.le_of_eq W2.size.symm)) E3.1) (Nat.le_of_eq W4.size.symm)) E5.1) (Nat.le_of_eq W6.size.symm)) E7.1) (Nat.le_of_eq W8.size.symm)) E9.1) (Nat.le_of_eq W10.size.symm)) E11.1) (Nat.le_of_eq W12.size.symm)) (Nat.le_of_eq g13.symm)
  have ne_b_b13 : b ≠ b13 := Nat.ne_of_lt (by rw [g13]; exact ((((((((((((E_b.ext E1).wr W2).ext E3).wr W4).ext E5).wr W6).ext E7).wr W8).ext E9).wr W10).ext E11).wr W12).lt)
  have ne_b1_b13 : b1 ≠ b13 := Nat.ne_of_lt (by rw [g13]; exact A12.lt)
  have ne_b3_b13 : b3 ≠ b13 := Nat.ne_of_lt (by rw [g13]; exact (((((((((A3.other W4 (Ne.symm ne_b_b3)).ext E5).other W6 (Ne.symm ne_b1_b3)).ext E7).other W8 (Ne.symm ne_b1_b3)).ext E9).other W10 (Ne.symm ne_b1_b3)).ext E11).other W12 (Ne.symm ne_b1_b3)).lt)
  have ne_b5_b13 : b5 ≠ b13 := Nat.ne_of_lt (by rw [g13]; exact (((((((A5.other W6 (Ne.symm ne_b1_b5)).ext E7).other W8 (Ne.symm ne_b1_b5)).ext E9).other W10 (Ne.symm ne_b1_b5)).ext E11).other W12 (Ne.symm ne_b1_b5)).lt)
  have ne_b7_b13 : b7 ≠ b13 := Nat.ne_of_lt (by rw [g13]; exact (((((A7.other W8 (Ne.symm ne_b1_b7)).ext E9).other W10 (Ne.symm ne_b1_b7)).ext E11).other W12 (Ne.symm ne_b1_b7)).lt)
  have ne_b9_b13 : b9 ≠ b13 := Nat.ne_of_lt (by rw [g13]; exact (((A9.other W10 (Ne.symm ne_b1_b9)).ext E11).other W12 (Ne.symm ne_b1_b9)).lt)
  have ne_b11_b13 : b11 ≠ b13 := Nat.ne_of_lt (by rw [g13]; exact (A11.other W12 (Ne.symm ne_b1_b11)).lt)
  refine go_aaset C (pc' := 36) (A12.ext E13) V1 (Ins.self X13) (by decide) (i := 4) (by decide) (by simp) (vs' := [(.ref b5), (.ref b7), (.ref b9), (.ref b11), (.ref b13)]) rfl dc_prog_51_method_1_code_35 rfl n1 ?_
  intro h14 W14 A14
  refine go_iinc C (pc' := 39) dc_prog_51_method_1_code_36 rfl (Ls' := #[(.val (.ref b)), (.val (.int (5 : Int32))), (.val (.int ((4 : Int32) + (1 : Int32))))]) rfl rfl ?_
  refine go_ls (Ls' := #[(.val (.ref b)), (.val (.int (5 : Int32))), (.val (.int (5 : Int32)))]) (by rw [show ((4 : Int32) + (1 : Int32)) = (5 : Int32) from by decide]) ?_
  refine go_goto C (pc' := 21) dc_prog_51_method_1_code_39 (by decide) (by decide) ?_
  refine go_iloadN C (pc' := 22) dc_prog_51_method_1_code_21 rfl rfl ?_
  refine go_iloadN C (pc' := 23) dc_prog_51_method_1_code_22 rfl rfl ?_
  refine go_icmpYes C (pc' := 42) dc_prog_51_method_1_code_23 (by decide) (by decide) (by decide) ?_
  exact go_ret0 C dc_prog_51_method_1_code_42 (by decide) (by decide) ⟨rfl, ⟨b1, b3, k1, _, (fun i => ([b5, b7, b9, b11, b13] : List Addr).getD i 0), (fun i => ([k5, k7, k9, k11, k13] : List ClassId).getD i 0), _, _, (fun _ => List.replicate 16 (.int 0)), ((((((((((((((E_b.ext E1).wr W2).ext E3).wr W4).ext E5).wr W6).ext E7).wr W8).ext E9).wr W10).ext E11).wr W12).ext E13).wr W14), ((((((((((((F2.ext E3).other W4 (Or.inr (slot_ne (a0 := a0) (Or.inr (wd_13 hw)) (Or.inr (wd_16 hw)) (by decide) (t := (.array (.array .int))) (t' := (.array .int)) (by decide) (by decide)))).ext E5).other W6 (Or.inl ne_b_b1)).ext E7).other W8 (Or.inl ne_b_b1)).ext E9).other W10 (Or.inl ne_b_b1)).ext E11).other W12 (Or.inl ne_b_b1)).ext E13).other W14 (Or.inl ne_b_b1)), ((((((((((F4.ext E5).other W6 (Or.inl ne_b_b1)).ext E7).other W8 (Or.inl ne_b_b1)).ext E9).other W10 (Or.inl ne_b_b1)).ext E11).other W12 (Or.inl ne_b_b1)).ext E13).other W14 (Or.inl ne_b_b1)), ((((((((((((((F_b_lowest.ext E1).other W2 (Or.inr (slot_ne (a0 := a0) (Or.inl (wd_36 hw)) (Or.inr (wd_13 hw)) (by decide) (t := .long) (t' := (.array (.array .int))) (by decide) (by decide)))).ext E3).other W4 (Or.inr (slot_ne (a0 := a0) (Or.inl (wd_36 hw)) (Or.inr (wd_16 hw)) (by decide) (t := .long) (t' := (.array .int)) (by decide) (by decide)))).ext E5).other W6 (Or.inl ne_b_b1)).ext E7).other W8 (Or.inl ne_b_b1)).ext E9).other W10 (Or.inl ne_b_b1)).ext E11).other W12 (Or.inl ne_b_b1)).ext E13).other W14 (Or.inl ne_b_b1)), ((((((((((((((F_b_size.ext E1).other W2 (Or.inr (slot_ne (a0 := a0) (Or.inl (wd_24 hw)) (Or.inr (wd_13 hw)) (by decide) (t := .long) (t' := (.array (.array .int))) (by decide) (by decide)))).ext E3).other W4 (Or.inr (slot_ne (a0 := a0) (Or.inl (wd_24 hw)) (Or.inr (wd_16 hw)) (by decide) (t := .long) (t' := (.array .int)) (by decide) (by decide)))).ext E5).other W6 (Or.inl ne_b_b1)).ext E7).other W8 (Or.inl ne_b_b1)).ext E9).other W10 (Or.inl ne_b_b1)).ext E11).other W12 (Or.inl ne_b_b1)).ext E13).other W14 (Or.inl ne_b_b1)), A14, rfl, (fun i hi => by match i, hi with | 0, _ => rfl | 1, _ => rfl | 2, _ => rfl | 3, _ => rfl | 4, _ => rfl), (((((((((((A3.other W4 (Ne.symm ne_b_b3)).ext E5).other W6 (Ne.symm ne_b1_b3)).ext E7).other W8 (Ne.symm ne_b1_b3)).ext E9).other W10 (Ne.symm ne_b1_b3)).ext E11).other W12 (Ne.symm ne_b1_b3)).ext E13).other W14 (Ne.symm ne_b1_b3)), rfl, (fun i hi => by match i, hi with | 0, _ => rfl | 1, _ => rfl | 2, _ => rfl | 3, _ => rfl | 4, _ => rfl), (fun i hi => by match i, hi with | 0, _ => exact (((((((((A5.other W6 (Ne.symm ne_b1_b5)).ext E7).other W8 (Ne.symm ne_b1_b5)).ext E9).other W10 (Ne.symm ne_b1_b5)).ext E11).other W12 (Ne.symm ne_b1_b5)).ext E13).other W14 (Ne.symm ne_b1_b5)) | 1, _ => exact (((((((A7.other W8 (Ne.symm ne_b1_b7)).ext E9).other W10 (Ne.symm ne_b1_b7)).ext E11).other W12 (Ne.symm ne_b1_b7)).ext E13).other W14 (Ne.symm ne_b1_b7)) | 2, _ => exact (((((A9.other W10 (Ne.symm ne_b1_b9)).ext E11).other W12 (Ne.symm ne_b1_b9)).ext E13).other W14 (Ne.symm ne_b1_b9)) | 3, _ => exact (((A11.other W12 (Ne.symm ne_b1_b11)).ext E13).other W14 (Ne.symm ne_b1_b11)) | 4, _ => exact (A13.other W14 (Ne.symm ne_b1_b13))), (fun i hi => rfl), (fun i hi j x hx => by simp at hx), ⟨(Ne.symm ne_b_b1), (Ne.symm ne_b_b3), (Ne.symm ne_b1_b3), (fun i hi => by match i, hi with | 0, _ => exact ⟨(Ne.symm ne_b_b5), (Ne.symm ne_b1_b5), (Ne.symm ne_b3_b5)⟩ | 1, _ => exact ⟨(Ne.symm ne_b_b7), (Ne.symm ne_b1_b7), (Ne.symm ne_b3_b7)⟩ | 2, _ => exact ⟨(Ne.symm ne_b_b9), (Ne.symm ne_b1_b9), (Ne.symm ne_b3_b9)⟩ | 3, _ => exact ⟨(Ne.symm ne_b_b11), (Ne.symm ne_b1_b11), (Ne.symm ne_b3_b11)⟩ | 4, _ => exact ⟨(Ne.symm ne_b_b13), (Ne.symm ne_b1_b13), (Ne.symm ne_b3_b13)⟩), (fun i j hi hj hij => by match i, hi, j, hj with | 0, _, 0, _ => exact absurd rfl hij | 0, _, 1, _ => exact ne_b5_b7 | 0, _, 2, _ => exact ne_b5_b9 | 0, _, 3, _ => exact ne_b5_b11 | 0, _, 4, _ => exact ne_b5_b13 | 1, _, 0, _ => exact (Ne.symm ne_b5_b7) | 1, _, 1, _ => exact absurd rfl hij | 1, _, 2, _ => exact ne_b7_b9 | 1, _, 3, _ => exact ne_b7_b11 | 1, _, 4, _ => exact ne_b7_b13 | 2, _, 0, _ => exact (Ne.symm ne_b5_b9) | 2, _, 1, _ => exact (Ne.symm ne_b7_b9) | 2, _, 2, _ => exact absurd rfl hij | 2, _, 3, _ => exact ne_b9_b11 | 2, _, 4, _ => exact ne_b9_b13 | 3, _, 0, _ => exact (Ne.symm ne_b5_b11) | 3, _, 1, _ => exact (Ne.symm ne_b7_b11) | 3, _, 2, _ => exact (Ne.symm ne_b9_b11) | 3, _, 3, _ => exact absurd rfl hij | 3, _, 4, _ => exact ne_b11_b13 | 4, _, 0, _ => exact (Ne.symm ne_b5_b13) | 4, _, 1, _ => exact (Ne.symm ne_b7_b13) | 4, _, 2, _ => exact (Ne.symm ne_b9_b13) | 4, _, 3, _ => exact (Ne.symm ne_b11_b13) | 4, _, 4, _ => exact absurd rfl hij)⟩, nb, n1, n3, (fun i hi => by match i, hi with | 0, _ => exact n5 | 1, _ => exact n7 | 2, _ => exact n9 | 3, _ => exact n11 | 4, _ => exact n13)⟩⟩
set_option maxRecDepth 65536 in
set_option maxHeartbeats 4000000 in
theorem init_4 (l : Launch) (Z : State) (a0 : Array Value) (hw : ∀ d ∈ tables_1, d.before a0 Z = true) (n0 : Nat) (h : Heap) (O : Old Z n0 h) (b : Addr) (E_b : Exa Z h b "com/example/invariant/invariant/check/BucketQueue") (F_b_buckets : Fld Z h b "com/example/invariant/invariant/check/BucketQueue" "buckets" "[[I" .null) (F_b_counts : Fld Z h b "com/example/invariant/invariant/check/BucketQueue" "counts" "[I" .null) (F_b_lowest : Fld Z h b "com/example/invariant/invariant/check/BucketQueue" "lowest" "J" (.long (0 : Int64))) (F_b_size : Fld Z h b "com/example/invariant/invariant/check/BucketQueue" "size" "J" (.long (0 : Int64))) (nb : n0 ≤ b) :
    Met l Z n0 (⟨"com/example/invariant/invariant/check/BucketQueue", "<init>", "(I)V"⟩ : MethodName) prog_51_method_1_code 3 none [] ({ frames := 1, cells := 10, slots := 144, locals := 12 } : Room) #[(.ref b), (.int (4 : Int32))] h (fun v h' => v = none ∧ QAt Z h' n0 b 4 (fun _ => []) 0 0) := by
  refine met_of (Ls := #[(.val (.ref b)), (.val (.int (4 : Int32))), .unset]) (by decide +kernel) (fun m => by first | (simp [entryFrame, mkF, argsToLocals, Value.category]; done) | rfl) O ?_
  intro p e s m below meth cd C
  refine go_aloadN C (pc' := 1) dc_prog_51_method_1_code_0 rfl rfl rfl ?_
  refine go_initO C (pc' := 4) (wd_7 hw) (wd_8 hw) (wd_9 hw) rfl dc_prog_51_method_1_code_1 rfl (by decide) (by decide) ?_
  refine go_aloadN C (pc' := 5) dc_prog_51_method_1_code_4 rfl rfl rfl ?_
  refine go_iloadN C (pc' := 6) dc_prog_51_method_1_code_5 rfl rfl ?_
  refine go_newAA C (pc' := 9) (len := 4) (ty := .int) rfl (ad := "[[I") rfl (wd_10 hw) (wd_11 hw) dc_prog_51_method_1_code_6 rfl (by decide) (by decide) (by decide) (by decide) (by decide) ?_
  intro h1 b1 k1 g1 n1 E1 A1 V1 X1
  have sz_b1 := Nat.le_trans (Nat.le_refl _) (Nat.le_of_eq g1.symm)
  have ne_b_b1 : b ≠ b1 := Nat.ne_of_lt (by rw [g1]; exact E_b.lt)
  refine go_putF C (pc' := 12) (host := "") (Or.inl (wd_12 hw)) Via.refl (F_b_buckets.ext E1) (E_b.ext E1) (Or.inr ⟨(wd_13 hw), rfl, rfl⟩) (wd_2 hw) (ty := (.array (.array .int))) (by decide) rfl rfl dc_prog_51_method_1_code_9 rfl nb ?_
  intro h2 W2 F2
  refine go_aloadN C (pc' := 13) dc_prog_51_method_1_code_12 rfl rfl rfl ?_
  refine go_iloadN C (pc' := 14) dc_prog_51_method_1_code_13 rfl rfl ?_
  refine go_newPA C (pc' := 16) (len := 4) (ty := .int) rfl (wd_14 hw) dc_prog_51_method_1_code_14 rfl (by decide) (by decide) (by decide) (by decide) (by decide) ?_
  intro h3 b3 k3 g3 n3 E3 A3
  have sz_b3 := Nat.le_trans (Nat.le_trans (Nat.le_trans (Nat.le_refl _) E1.1) (Nat.le_of_eq W2.size.symm)) (Nat.le_of_eq g3.symm)
  have ne_b_b3 : b ≠ b3 := Nat.ne_of_lt (by rw [g3]; exact ((E_b.ext E1).wr W2).lt)
  have ne_b1_b3 : b1 ≠ b3 := Nat.ne_of_lt (by rw [g3]; exact (A1.other W2 (Ne.symm ne_b_b1)).lt)
  refine go_putF C (pc' := 19) (host := "") (Or.inl (wd_15 hw)) Via.refl (((F_b_counts.ext E1).other W2 (Or.inr (slot_ne (a0 := a0) (Or.inr (wd_16 hw)) (Or.inr (wd_13 hw)) (by decide) (t := (.array .int)) (t' := (.array (.array .int))) (by decide) (by decide)))).ext E3) (((E_b.ext E1).wr W2).ext E3) (Or.inr ⟨(wd_16 hw), rfl, rfl⟩) (wd_2 hw) (ty := (.array .int)) (by decide) rfl rfl dc_prog_51_method_1_code_16 rfl nb ?_
  intro h4 W4 F4
  refine go_iconst C (pc' := 20) dc_prog_51_method_1_code_19 (z := (0 : Int32)) (by decide) rfl ?_
  refine go_istoreN C (pc' := 21) dc_prog_51_method_1_code_20 (Ls' := #[(.val (.ref b)), (.val (.int (4 : Int32))), (.val (.int (0 : Int32)))]) rfl rfl ?_
  refine go_iloadN C (pc' := 22) dc_prog_51_method_1_code_21 rfl rfl ?_
  refine go_iloadN C (pc' := 23) dc_prog_51_method_1_code_22 rfl rfl ?_
  refine go_icmpNo C (pc' := 26) dc_prog_51_method_1_code_23 (by decide) rfl ?_
  refine go_aloadN C (pc' := 27) dc_prog_51_method_1_code_26 rfl rfl rfl ?_
  refine go_getF C (pc' := 30) (host := "") (Or.inl (wd_12 hw)) Via.refl ((F2.ext E3).other W4 (Or.inr (slot_ne (a0 := a0) (Or.inr (wd_13 hw)) (Or.inr (wd_16 hw)) (by decide) (t := (.array (.array .int))) (t' := (.array .int)) (by decide) (by decide)))) dc_prog_51_method_1_code_27 rfl ?_
  refine go_iloadN C (pc' := 31) dc_prog_51_method_1_code_30 rfl rfl ?_
  refine go_bipush C (pc' := 33) dc_prog_51_method_1_code_31 (z := (16 : Int32)) (by decide) rfl ?_
  refine go_newPE C (pc' := 35) (len := 16) (ty := .int) rfl (ad := "[I") rfl (wd_14 hw) dc_prog_51_method_1_code_33 rfl (by decide) (by decide) (by decide) (by decide) (by decide) ?_
  intro h5 b5 k5 g5 n5 E5 A5 X5
  have sz_b5 := Nat.le_trans (Nat.le_trans (Nat.le_trans (Nat.le_trans (Nat.le_trans (Nat.le_refl _) E1.1) (Nat.le_of_eq W2.size.symm)) E3.1) (Nat.le_of_eq W4.size.symm)) (Nat.le_of_eq g5.symm)
  have ne_b_b5 : b ≠ b5 := Nat.ne_of_lt (by rw [g5]; exact ((((E_b.ext E1).wr W2).ext E3).wr W4).lt)
  have ne_b1_b5 : b1 ≠ b5 := Nat.ne_of_lt (by rw [g5]; exact (((A1.other W2 (Ne.symm ne_b_b1)).ext E3).other W4 (Ne.symm ne_b_b1)).lt)
  have ne_b3_b5 : b3 ≠ b5 := Nat.ne_of_lt (by rw [g5]; exact (A3.other W4 (Ne.symm ne_b_b3)).lt)
  refine go_aaset C (pc' := 36) ((((A1.other W2 (Ne.symm ne_b_b1)).ext E3).other W4 (Ne.symm ne_b_b1)).ext E5) V1 (Ins.self X5) (by decide) (i := 0) (by decide) (by simp) (vs' := [(.ref b5), .null, .null, .null]) rfl dc_prog_51_method_1_code_35 rfl n1 ?_
  intro h6 W6 A6
  refine go_iinc C (pc' := 39) dc_prog_51_method_1_code_36 rfl (Ls' := #[(.val (.ref b)), (.val (.int (4 : Int32))), (.val (.int ((0 : Int32) + (1 : Int32))))]) rfl rfl ?_
  refine go_ls (Ls' := #[(.val (.ref b)), (.val (.int (4 : Int32))), (.val (.int (1 : Int32)))]) (by rw [show ((0 : Int32) + (1 : Int32)) = (1 : Int32) from by decide]) ?_
  refine go_goto C (pc' := 21) dc_prog_51_method_1_code_39 (by decide) (by decide) ?_
  refine go_iloadN C (pc' := 22) dc_prog_51_method_1_code_21 rfl rfl ?_
  refine go_iloadN C (pc' := 23) dc_prog_51_method_1_code_22 rfl rfl ?_
  refine go_icmpNo C (pc' := 26) dc_prog_51_method_1_code_23 (by decide) rfl ?_
  refine go_aloadN C (pc' := 27) dc_prog_51_method_1_code_26 rfl rfl rfl ?_
  refine go_getF C (pc' := 30) (host := "") (Or.inl (wd_12 hw)) Via.refl ((((F2.ext E3).other W4 (Or.inr (slot_ne (a0 := a0) (Or.inr (wd_13 hw)) (Or.inr (wd_16 hw)) (by decide) (t := (.array (.array .int))) (t' := (.array .int)) (by decide) (by decide)))).ext E5).other W6 (Or.inl ne_b_b1)) dc_prog_51_method_1_code_27 rfl ?_
  refine go_iloadN C (pc' := 31) dc_prog_51_method_1_code_30 rfl rfl ?_
  refine go_bipush C (pc' := 33) dc_prog_51_method_1_code_31 (z := (16 : Int32)) (by decide) rfl ?_
  refine go_newPE C (pc' := 35) (len := 16) (ty := .int) rfl (ad := "[I") rfl (wd_14 hw) dc_prog_51_method_1_code_33 rfl (by decide) (by decide) (by decide) (by decide) (by decide) ?_
  intro h7 b7 k7 g7 n7 E7 A7 X7
  have sz_b7 := Nat.le_trans (Nat.le_trans (Nat.le_trans (Nat.le_trans (Nat.le_trans (Nat.le_trans (Nat.le_trans (Nat.le_refl _) E1.1) (Nat.le_of_eq W2.size.symm)) E3.1) (Nat.le_of_eq W4.size.symm)) E5.1) (Nat.le_of_eq W6.size.symm)) (Nat.le_of_eq g7.symm)
  have ne_b_b7 : b ≠ b7 := Nat.ne_of_lt (by rw [g7]; exact ((((((E_b.ext E1).wr W2).ext E3).wr W4).ext E5).wr W6).lt)
  have ne_b1_b7 : b1 ≠ b7 := Nat.ne_of_lt (by rw [g7]; exact A6.lt)
  have ne_b3_b7 : b3 ≠ b7 := Nat.ne_of_lt (by rw [g7]; exact (((A3.other W4 (Ne.symm ne_b_b3)).ext E5).other W6 (Ne.symm ne_b1_b3)).lt)
  have ne_b5_b7 : b5 ≠ b7 := Nat.ne_of_lt (by rw [g7]; exact (A5.other W6 (Ne.symm ne_b1_b5)).lt)
  refine go_aaset C (pc' := 36) (A6.ext E7) V1 (Ins.self X7) (by decide) (i := 1) (by decide) (by simp) (vs' := [(.ref b5), (.ref b7), .null, .null]) rfl dc_prog_51_method_1_code_35 rfl n1 ?_
  intro h8 W8 A8
  refine go_iinc C (pc' := 39) dc_prog_51_method_1_code_36 rfl (Ls' := #[(.val (.ref b)), (.val (.int (4 : Int32))), (.val (.int ((1 : Int32) + (1 : Int32))))]) rfl rfl ?_
  refine go_ls (Ls' := #[(.val (.ref b)), (.val (.int (4 : Int32))), (.val (.int (2 : Int32)))]) (by rw [show ((1 : Int32) + (1 : Int32)) = (2 : Int32) from by decide]) ?_
  refine go_goto C (pc' := 21) dc_prog_51_method_1_code_39 (by decide) (by decide) ?_
  refine go_iloadN C (pc' := 22) dc_prog_51_method_1_code_21 rfl rfl ?_
  refine go_iloadN C (pc' := 23) dc_prog_51_method_1_code_22 rfl rfl ?_
  refine go_icmpNo C (pc' := 26) dc_prog_51_method_1_code_23 (by decide) rfl ?_
  refine go_aloadN C (pc' := 27) dc_prog_51_method_1_code_26 rfl rfl rfl ?_
  refine go_getF C (pc' := 30) (host := "") (Or.inl (wd_12 hw)) Via.refl ((((((F2.ext E3).other W4 (Or.inr (slot_ne (a0 := a0) (Or.inr (wd_13 hw)) (Or.inr (wd_16 hw)) (by decide) (t := (.array (.array .int))) (t' := (.array .int)) (by decide) (by decide)))).ext E5).other W6 (Or.inl ne_b_b1)).ext E7).other W8 (Or.inl ne_b_b1)) dc_prog_51_method_1_code_27 rfl ?_
  refine go_iloadN C (pc' := 31) dc_prog_51_method_1_code_30 rfl rfl ?_
  refine go_bipush C (pc' := 33) dc_prog_51_method_1_code_31 (z := (16 : Int32)) (by decide) rfl ?_
  refine go_newPE C (pc' := 35) (len := 16) (ty := .int) rfl (ad := "[I") rfl (wd_14 hw) dc_prog_51_method_1_code_33 rfl (by decide) (by decide) (by decide) (by decide) (by decide) ?_
  intro h9 b9 k9 g9 n9 E9 A9 X9
  have sz_b9 := Nat.le_trans (Nat.le_trans (Nat.le_trans (Nat.le_trans (Nat.le_trans (Nat.le_trans (Nat.le_trans (Nat.le_trans (Nat.le_trans (Nat.le_refl _) E1.1) (Nat.le_of_eq W2.size.symm)) E3.1) (Nat.le_of_eq W4.size.symm)) E5.1) (Nat.le_of_eq W6.size.symm)) E7.1) (Nat.le_of_eq W8.size.symm)) (Nat.le_of_eq g9.symm)
  have ne_b_b9 : b ≠ b9 := Nat.ne_of_lt (by rw [g9]; exact ((((((((E_b.ext E1).wr W2).ext E3).wr W4).ext E5).wr W6).ext E7).wr W8).lt)
  have ne_b1_b9 : b1 ≠ b9 := Nat.ne_of_lt (by rw [g9]; exact A8.lt)
  have ne_b3_b9 : b3 ≠ b9 := Nat.ne_of_lt (by rw [g9]; exact (((((A3.other W4 (Ne.symm ne_b_b3)).ext E5).other W6 (Ne.symm ne_b1_b3)).ext E7).other W8 (Ne.symm ne_b1_b3)).lt)
  have ne_b5_b9 : b5 ≠ b9 := Nat.ne_of_lt (by rw [g9]; exact (((A5.other W6 (Ne.symm ne_b1_b5)).ext E7).other W8 (Ne.symm ne_b1_b5)).lt)
  have ne_b7_b9 : b7 ≠ b9 := Nat.ne_of_lt (by rw [g9]; exact (A7.other W8 (Ne.symm ne_b1_b7)).lt)
  refine go_aaset C (pc' := 36) (A8.ext E9) V1 (Ins.self X9) (by decide) (i := 2) (by decide) (by simp) (vs' := [(.ref b5), (.ref b7), (.ref b9), .null]) rfl dc_prog_51_method_1_code_35 rfl n1 ?_
  intro h10 W10 A10
  refine go_iinc C (pc' := 39) dc_prog_51_method_1_code_36 rfl (Ls' := #[(.val (.ref b)), (.val (.int (4 : Int32))), (.val (.int ((2 : Int32) + (1 : Int32))))]) rfl rfl ?_
  refine go_ls (Ls' := #[(.val (.ref b)), (.val (.int (4 : Int32))), (.val (.int (3 : Int32)))]) (by rw [show ((2 : Int32) + (1 : Int32)) = (3 : Int32) from by decide]) ?_
  refine go_goto C (pc' := 21) dc_prog_51_method_1_code_39 (by decide) (by decide) ?_
  refine go_iloadN C (pc' := 22) dc_prog_51_method_1_code_21 rfl rfl ?_
  refine go_iloadN C (pc' := 23) dc_prog_51_method_1_code_22 rfl rfl ?_
  refine go_icmpNo C (pc' := 26) dc_prog_51_method_1_code_23 (by decide) rfl ?_
  refine go_aloadN C (pc' := 27) dc_prog_51_method_1_code_26 rfl rfl rfl ?_
  refine go_getF C (pc' := 30) (host := "") (Or.inl (wd_12 hw)) Via.refl ((((((((F2.ext E3).other W4 (Or.inr (slot_ne (a0 := a0) (Or.inr (wd_13 hw)) (Or.inr (wd_16 hw)) (by decide) (t := (.array (.array .int))) (t' := (.array .int)) (by decide) (by decide)))).ext E5).other W6 (Or.inl ne_b_b1)).ext E7).other W8 (Or.inl ne_b_b1)).ext E9).other W10 (Or.inl ne_b_b1)) dc_prog_51_method_1_code_27 rfl ?_
  refine go_iloadN C (pc' := 31) dc_prog_51_method_1_code_30 rfl rfl ?_
  refine go_bipush C (pc' := 33) dc_prog_51_method_1_code_31 (z := (16 : Int32)) (by decide) rfl ?_
  refine go_newPE C (pc' := 35) (len := 16) (ty := .int) rfl (ad := "[I") rfl (wd_14 hw) dc_prog_51_method_1_code_33 rfl (by decide) (by decide) (by decide) (by decide) (by decide) ?_
  intro h11 b11 k11 g11 n11 E11 A11 X11
  have sz_b11 := Nat.le_trans (Nat.le_trans (Nat.le_trans (Nat.le_trans (Nat.le_trans (Nat.le_trans (Nat.le_trans (Nat.le_trans (Nat.le_trans (Nat.le_trans (Nat.le_trans (Nat.le_refl _) E1.1) (Nat.le_of_eq W2.size.symm)) E3.1) (Nat.le_of_eq W4.size.symm)) E5.1) (Nat.le_of_eq W6.size.symm)) E7.1) (Nat.le_of_eq W8.size.symm)) E9.1) (Nat.le_of_eq W10.size.symm)) (Nat.le_of_eq g11.symm)
  have ne_b_b11 : b ≠ b11 := Nat.ne_of_lt (by rw [g11]; exact ((((((((((E_b.ext E1).wr W2).ext E3).wr W4).ext E5).wr W6).ext E7).wr W8).ext E9).wr W10).lt)
  have ne_b1_b11 : b1 ≠ b11 := Nat.ne_of_lt (by rw [g11]; exact A10.lt)
  have ne_b3_b11 : b3 ≠ b11 := Nat.ne_of_lt (by rw [g11]; exact (((((((A3.other W4 (Ne.symm ne_b_b3)).ext E5).other W6 (Ne.symm ne_b1_b3)).ext E7).other W8 (Ne.symm ne_b1_b3)).ext E9).other W10 (Ne.symm ne_b1_b3)).lt)
  have ne_b5_b11 : b5 ≠ b11 := Nat.ne_of_lt (by rw [g11]; exact (((((A5.other W6 (Ne.symm ne_b1_b5)).ext E7).other W8 (Ne.symm ne_b1_b5)).ext E9).other W10 (Ne.symm ne_b1_b5)).lt)
  have ne_b7_b11 : b7 ≠ b11 := Nat.ne_of_lt (by rw [g11]; exact (((A7.other W8 (Ne.symm ne_b1_b7)).ext E9).other W10 (Ne.symm ne_b1_b7)).lt)
  have ne_b9_b11 : b9 ≠ b11 := Nat.ne_of_lt (by rw [g11]; exact (A9.other W10 (Ne.symm ne_b1_b9)).lt)
  refine go_aaset C (pc' := 36) (A10.ext E11) V1 (Ins.self X11) (by decide) (i := 3) (by decide) (by simp) (vs' := [(.ref b5), (.ref b7), (.ref b9), (.ref b11)]) rfl dc_prog_51_method_1_code_35 rfl n1 ?_
  intro h12 W12 A12
  refine go_iinc C (pc' := 39) dc_prog_51_method_1_code_36 rfl (Ls' := #[(.val (.ref b)), (.val (.int (4 : Int32))), (.val (.int ((3 : Int32) + (1 : Int32))))]) rfl rfl ?_
  refine go_ls (Ls' := #[(.val (.ref b)), (.val (.int (4 : Int32))), (.val (.int (4 : Int32)))]) (by rw [show ((3 : Int32) + (1 : Int32)) = (4 : Int32) from by decide]) ?_
  refine go_goto C (pc' := 21) dc_prog_51_method_1_code_39 (by decide) (by decide) ?_
  refine go_iloadN C (pc' := 22) dc_prog_51_method_1_code_21 rfl rfl ?_
  refine go_iloadN C (pc' := 23) dc_prog_51_method_1_code_22 rfl rfl ?_
  refine go_icmpYes C (pc' := 42) dc_prog_51_method_1_code_23 (by decide) (by decide) (by decide) ?_
  exact go_ret0 C dc_prog_51_method_1_code_42 (by decide) (by decide) ⟨rfl, ⟨b1, b3, k1, _, (fun i => ([b5, b7, b9, b11] : List Addr).getD i 0), (fun i => ([k5, k7, k9, k11] : List ClassId).getD i 0), _, _, (fun _ => List.replicate 16 (.int 0)), ((((((((((((E_b.ext E1).wr W2).ext E3).wr W4).ext E5).wr W6).ext E7).wr W8).ext E9).wr W10).ext E11).wr W12), ((((((((((F2.ext E3).other W4 (Or.inr (slot_ne (a0 := a0) (Or.inr (wd_13 hw)) (Or.inr (wd_16 hw)) (by decide) (t := (.array (.array .int))) (t' := (.array .int)) (by decide) (by decide)))).ext E5).other W6 (Or.inl ne_b_b1)).ext E7).other W8 (Or.inl ne_b_b1)).ext E9).other W10 (Or.inl ne_b_b1)).ext E11).other W12 (Or.inl ne_b_b1)), ((((((((F4.ext E5).other W6 (Or.inl ne_b_b1)).ext E7).other W8 (Or.inl ne_b_b1)).ext E9).other W10 (Or.inl ne_b_b1)).ext E11).other W12 (Or.inl ne_b_b1)), ((((((((((((F_b_lowest.ext E1).other W2 (Or.inr (slot_ne (a0 := a0) (Or.inl (wd_36 hw)) (Or.inr (wd_13 hw)) (by decide) (t := .long) (t' := (.array (.array .int))) (by decide) (by decide)))).ext E3).other W4 (Or.inr (slot_ne (a0 := a0) (Or.inl (wd_36 hw)) (Or.inr (wd_16 hw)) (by decide) (t := .long) (t' := (.array .int)) (by decide) (by decide)))).ext E5).other W6 (Or.inl ne_b_b1)).ext E7).other W8 (Or.inl ne_b_b1)).ext E9).other W10 (Or.inl ne_b_b1)).ext E11).other W12 (Or.inl ne_b_b1)), ((((((((((((F_b_size.ext E1).other W2 (Or.inr (slot_ne (a0 := a0) (Or.inl (wd_24 hw)) (Or.inr (wd_13 hw)) (by decide) (t := .long) (t' := (.array (.array .int))) (by decide) (by decide)))).ext E3).other W4 (Or.inr (slot_ne (a0 := a0) (Or.inl (wd_24 hw)) (Or.inr (wd_16 hw)) (by decide) (t := .long) (t' := (.array .int)) (by decide) (by decide)))).ext E5).other W6 (Or.inl ne_b_b1)).ext E7).other W8 (Or.inl ne_b_b1)).ext E9).other W10 (Or.inl ne_b_b1)).ext E11).other W12 (Or.inl ne_b_b1)), A12, rfl, (fun i hi => by match i, hi with | 0, _ => rfl | 1, _ => rfl | 2, _ => rfl | 3, _ => rfl), (((((((((A3.other W4 (Ne.symm ne_b_b3)).ext E5).other W6 (Ne.symm ne_b1_b3)).ext E7).other W8 (Ne.symm ne_b1_b3)).ext E9).other W10 (Ne.symm ne_b1_b3)).ext E11).other W12 (Ne.symm ne_b1_b3)), rfl, (fun i hi => by match i, hi with | 0, _ => rfl | 1, _ => rfl | 2, _ => rfl | 3, _ => rfl), (fun i hi => by match i, hi with | 0, _ => exact (((((((A5.other W6 (Ne.symm ne_b1_b5)).ext E7).other W8 (Ne.symm ne_b1_b5)).ext E9).other W10 (Ne.symm ne_b1_b5)).ext E11).other W12 (Ne.symm ne_b1_b5)) | 1, _ => exact (((((A7.other W8 (Ne.symm ne_b1_b7)).ext E9).other W10 (Ne.symm ne_b1_b7)).ext E11).other W12 (Ne.symm ne_b1_b7)) | 2, _ => exact (((A9.other W10 (Ne.symm ne_b1_b9)).ext E11).other W12 (Ne.symm ne_b1_b9)) | 3, _ => exact (A11.other W12 (Ne.symm ne_b1_b11))), (fun i hi => rfl), (fun i hi j x hx => by simp at hx), ⟨(Ne.symm ne_b_b1), (Ne.symm ne_b_b3), (Ne.symm ne_b1_b3), (fun i hi => by match i, hi with | 0, _ => exact ⟨(Ne.symm ne_b_b5), (Ne.symm ne_b1_b5), (Ne.symm ne_b3_b5)⟩ | 1, _ => exact ⟨(Ne.symm ne_b_b7), (Ne.symm ne_b1_b7), (Ne.symm ne_b3_b7)⟩ | 2, _ => exact ⟨(Ne.symm ne_b_b9), (Ne.symm ne_b1_b9), (Ne.symm ne_b3_b9)⟩ | 3, _ => exact ⟨(Ne.symm ne_b_b11), (Ne.symm ne_b1_b11), (Ne.symm ne_b3_b11)⟩), (fun i j hi hj hij => by match i, hi, j, hj with | 0, _, 0, _ => exact absurd rfl hij | 0, _, 1, _ => exact ne_b5_b7 | 0, _, 2, _ => exact ne_b5_b9 | 0, _, 3, _ => exact ne_b5_b11 | 1, _, 0, _ => exact (Ne.symm ne_b5_b7) | 1, _, 1, _ => exact absurd rfl hij | 1, _, 2, _ => exact ne_b7_b9 | 1, _, 3, _ => exact ne_b7_b11 | 2, _, 0, _ => exact (Ne.symm ne_b5_b9) | 2, _, 1, _ => exact (Ne.symm ne_b7_b9) | 2, _, 2, _ => exact absurd rfl hij | 2, _, 3, _ => exact ne_b9_b11 | 3, _, 0, _ => exact (Ne.symm ne_b5_b11) | 3, _, 1, _ => exact (Ne.symm ne_b7_b11) | 3, _, 2, _ => exact (Ne.symm ne_b9_b11) | 3, _, 3, _ => exact absurd rfl hij)⟩, nb, n1, n3, (fun i hi => by match i, hi with | 0, _ => exact n5 | 1, _ => exact n7 | 2, _ => exact n9 | 3, _ => exact n11)⟩⟩
set_option maxRecDepth 65536 in
set_option maxHeartbeats 4000000 in
theorem init_3 (l : Launch) (Z : State) (a0 : Array Value) (hw : ∀ d ∈ tables_1, d.before a0 Z = true) (n0 : Nat) (h : Heap) (O : Old Z n0 h) (b : Addr) (E_b : Exa Z h b "com/example/invariant/invariant/check/BucketQueue") (F_b_buckets : Fld Z h b "com/example/invariant/invariant/check/BucketQueue" "buckets" "[[I" .null) (F_b_counts : Fld Z h b "com/example/invariant/invariant/check/BucketQueue" "counts" "[I" .null) (F_b_lowest : Fld Z h b "com/example/invariant/invariant/check/BucketQueue" "lowest" "J" (.long (0 : Int64))) (F_b_size : Fld Z h b "com/example/invariant/invariant/check/BucketQueue" "size" "J" (.long (0 : Int64))) (nb : n0 ≤ b) :
    Met l Z n0 (⟨"com/example/invariant/invariant/check/BucketQueue", "<init>", "(I)V"⟩ : MethodName) prog_51_method_1_code 3 none [] ({ frames := 1, cells := 10, slots := 144, locals := 12 } : Room) #[(.ref b), (.int (3 : Int32))] h (fun v h' => v = none ∧ QAt Z h' n0 b 3 (fun _ => []) 0 0) := by
  refine met_of (Ls := #[(.val (.ref b)), (.val (.int (3 : Int32))), .unset]) (by decide +kernel) (fun m => by first | (simp [entryFrame, mkF, argsToLocals, Value.category]; done) | rfl) O ?_
  intro p e s m below meth cd C
  refine go_aloadN C (pc' := 1) dc_prog_51_method_1_code_0 rfl rfl rfl ?_
  refine go_initO C (pc' := 4) (wd_7 hw) (wd_8 hw) (wd_9 hw) rfl dc_prog_51_method_1_code_1 rfl (by decide) (by decide) ?_
  refine go_aloadN C (pc' := 5) dc_prog_51_method_1_code_4 rfl rfl rfl ?_
  refine go_iloadN C (pc' := 6) dc_prog_51_method_1_code_5 rfl rfl ?_
  refine go_newAA C (pc' := 9) (len := 3) (ty := .int) rfl (ad := "[[I") rfl (wd_10 hw) (wd_11 hw) dc_prog_51_method_1_code_6 rfl (by decide) (by decide) (by decide) (by decide) (by decide) ?_
  intro h1 b1 k1 g1 n1 E1 A1 V1 X1
  have sz_b1 := Nat.le_trans (Nat.le_refl _) (Nat.le_of_eq g1.symm)
  have ne_b_b1 : b ≠ b1 := Nat.ne_of_lt (by rw [g1]; exact E_b.lt)
  refine go_putF C (pc' := 12) (host := "") (Or.inl (wd_12 hw)) Via.refl (F_b_buckets.ext E1) (E_b.ext E1) (Or.inr ⟨(wd_13 hw), rfl, rfl⟩) (wd_2 hw) (ty := (.array (.array .int))) (by decide) rfl rfl dc_prog_51_method_1_code_9 rfl nb ?_
  intro h2 W2 F2
  refine go_aloadN C (pc' := 13) dc_prog_51_method_1_code_12 rfl rfl rfl ?_
  refine go_iloadN C (pc' := 14) dc_prog_51_method_1_code_13 rfl rfl ?_
  refine go_newPA C (pc' := 16) (len := 3) (ty := .int) rfl (wd_14 hw) dc_prog_51_method_1_code_14 rfl (by decide) (by decide) (by decide) (by decide) (by decide) ?_
  intro h3 b3 k3 g3 n3 E3 A3
  have sz_b3 := Nat.le_trans (Nat.le_trans (Nat.le_trans (Nat.le_refl _) E1.1) (Nat.le_of_eq W2.size.symm)) (Nat.le_of_eq g3.symm)
  have ne_b_b3 : b ≠ b3 := Nat.ne_of_lt (by rw [g3]; exact ((E_b.ext E1).wr W2).lt)
  have ne_b1_b3 : b1 ≠ b3 := Nat.ne_of_lt (by rw [g3]; exact (A1.other W2 (Ne.symm ne_b_b1)).lt)
  refine go_putF C (pc' := 19) (host := "") (Or.inl (wd_15 hw)) Via.refl (((F_b_counts.ext E1).other W2 (Or.inr (slot_ne (a0 := a0) (Or.inr (wd_16 hw)) (Or.inr (wd_13 hw)) (by decide) (t := (.array .int)) (t' := (.array (.array .int))) (by decide) (by decide)))).ext E3) (((E_b.ext E1).wr W2).ext E3) (Or.inr ⟨(wd_16 hw), rfl, rfl⟩) (wd_2 hw) (ty := (.array .int)) (by decide) rfl rfl dc_prog_51_method_1_code_16 rfl nb ?_
  intro h4 W4 F4
  refine go_iconst C (pc' := 20) dc_prog_51_method_1_code_19 (z := (0 : Int32)) (by decide) rfl ?_
  refine go_istoreN C (pc' := 21) dc_prog_51_method_1_code_20 (Ls' := #[(.val (.ref b)), (.val (.int (3 : Int32))), (.val (.int (0 : Int32)))]) rfl rfl ?_
  refine go_iloadN C (pc' := 22) dc_prog_51_method_1_code_21 rfl rfl ?_
  refine go_iloadN C (pc' := 23) dc_prog_51_method_1_code_22 rfl rfl ?_
  refine go_icmpNo C (pc' := 26) dc_prog_51_method_1_code_23 (by decide) rfl ?_
  refine go_aloadN C (pc' := 27) dc_prog_51_method_1_code_26 rfl rfl rfl ?_
  refine go_getF C (pc' := 30) (host := "") (Or.inl (wd_12 hw)) Via.refl ((F2.ext E3).other W4 (Or.inr (slot_ne (a0 := a0) (Or.inr (wd_13 hw)) (Or.inr (wd_16 hw)) (by decide) (t := (.array (.array .int))) (t' := (.array .int)) (by decide) (by decide)))) dc_prog_51_method_1_code_27 rfl ?_
  refine go_iloadN C (pc' := 31) dc_prog_51_method_1_code_30 rfl rfl ?_
  refine go_bipush C (pc' := 33) dc_prog_51_method_1_code_31 (z := (16 : Int32)) (by decide) rfl ?_
  refine go_newPE C (pc' := 35) (len := 16) (ty := .int) rfl (ad := "[I") rfl (wd_14 hw) dc_prog_51_method_1_code_33 rfl (by decide) (by decide) (by decide) (by decide) (by decide) ?_
  intro h5 b5 k5 g5 n5 E5 A5 X5
  have sz_b5 := Nat.le_trans (Nat.le_trans (Nat.le_trans (Nat.le_trans (Nat.le_trans (Nat.le_refl _) E1.1) (Nat.le_of_eq W2.size.symm)) E3.1) (Nat.le_of_eq W4.size.symm)) (Nat.le_of_eq g5.symm)
  have ne_b_b5 : b ≠ b5 := Nat.ne_of_lt (by rw [g5]; exact ((((E_b.ext E1).wr W2).ext E3).wr W4).lt)
  have ne_b1_b5 : b1 ≠ b5 := Nat.ne_of_lt (by rw [g5]; exact (((A1.other W2 (Ne.symm ne_b_b1)).ext E3).other W4 (Ne.symm ne_b_b1)).lt)
  have ne_b3_b5 : b3 ≠ b5 := Nat.ne_of_lt (by rw [g5]; exact (A3.other W4 (Ne.symm ne_b_b3)).lt)
  refine go_aaset C (pc' := 36) ((((A1.other W2 (Ne.symm ne_b_b1)).ext E3).other W4 (Ne.symm ne_b_b1)).ext E5) V1 (Ins.self X5) (by decide) (i := 0) (by decide) (by simp) (vs' := [(.ref b5), .null, .null]) rfl dc_prog_51_method_1_code_35 rfl n1 ?_
  intro h6 W6 A6
  refine go_iinc C (pc' := 39) dc_prog_51_method_1_code_36 rfl (Ls' := #[(.val (.ref b)), (.val (.int (3 : Int32))), (.val (.int ((0 : Int32) + (1 : Int32))))]) rfl rfl ?_
  refine go_ls (Ls' := #[(.val (.ref b)), (.val (.int (3 : Int32))), (.val (.int (1 : Int32)))]) (by rw [show ((0 : Int32) + (1 : Int32)) = (1 : Int32) from by decide]) ?_
  refine go_goto C (pc' := 21) dc_prog_51_method_1_code_39 (by decide) (by decide) ?_
  refine go_iloadN C (pc' := 22) dc_prog_51_method_1_code_21 rfl rfl ?_
  refine go_iloadN C (pc' := 23) dc_prog_51_method_1_code_22 rfl rfl ?_
  refine go_icmpNo C (pc' := 26) dc_prog_51_method_1_code_23 (by decide) rfl ?_
  refine go_aloadN C (pc' := 27) dc_prog_51_method_1_code_26 rfl rfl rfl ?_
  refine go_getF C (pc' := 30) (host := "") (Or.inl (wd_12 hw)) Via.refl ((((F2.ext E3).other W4 (Or.inr (slot_ne (a0 := a0) (Or.inr (wd_13 hw)) (Or.inr (wd_16 hw)) (by decide) (t := (.array (.array .int))) (t' := (.array .int)) (by decide) (by decide)))).ext E5).other W6 (Or.inl ne_b_b1)) dc_prog_51_method_1_code_27 rfl ?_
  refine go_iloadN C (pc' := 31) dc_prog_51_method_1_code_30 rfl rfl ?_
  refine go_bipush C (pc' := 33) dc_prog_51_method_1_code_31 (z := (16 : Int32)) (by decide) rfl ?_
  refine go_newPE C (pc' := 35) (len := 16) (ty := .int) rfl (ad := "[I") rfl (wd_14 hw) dc_prog_51_method_1_code_33 rfl (by decide) (by decide) (by decide) (by decide) (by decide) ?_
  intro h7 b7 k7 g7 n7 E7 A7 X7
  have sz_b7 := Nat.le_trans (Nat.le_trans (Nat.le_trans (Nat.le_trans (Nat.le_trans (Nat.le_trans (Nat.le_trans (Nat.le_refl _) E1.1) (Nat.le_of_eq W2.size.symm)) E3.1) (Nat.le_of_eq W4.size.symm)) E5.1) (Nat.le_of_eq W6.size.symm)) (Nat.le_of_eq g7.symm)
  have ne_b_b7 : b ≠ b7 := Nat.ne_of_lt (by rw [g7]; exact ((((((E_b.ext E1).wr W2).ext E3).wr W4).ext E5).wr W6).lt)
  have ne_b1_b7 : b1 ≠ b7 := Nat.ne_of_lt (by rw [g7]; exact A6.lt)
  have ne_b3_b7 : b3 ≠ b7 := Nat.ne_of_lt (by rw [g7]; exact (((A3.other W4 (Ne.symm ne_b_b3)).ext E5).other W6 (Ne.symm ne_b1_b3)).lt)
  have ne_b5_b7 : b5 ≠ b7 := Nat.ne_of_lt (by rw [g7]; exact (A5.other W6 (Ne.symm ne_b1_b5)).lt)
  refine go_aaset C (pc' := 36) (A6.ext E7) V1 (Ins.self X7) (by decide) (i := 1) (by decide) (by simp) (vs' := [(.ref b5), (.ref b7), .null]) rfl dc_prog_51_method_1_code_35 rfl n1 ?_
  intro h8 W8 A8
  refine go_iinc C (pc' := 39) dc_prog_51_method_1_code_36 rfl (Ls' := #[(.val (.ref b)), (.val (.int (3 : Int32))), (.val (.int ((1 : Int32) + (1 : Int32))))]) rfl rfl ?_
  refine go_ls (Ls' := #[(.val (.ref b)), (.val (.int (3 : Int32))), (.val (.int (2 : Int32)))]) (by rw [show ((1 : Int32) + (1 : Int32)) = (2 : Int32) from by decide]) ?_
  refine go_goto C (pc' := 21) dc_prog_51_method_1_code_39 (by decide) (by decide) ?_
  refine go_iloadN C (pc' := 22) dc_prog_51_method_1_code_21 rfl rfl ?_
  refine go_iloadN C (pc' := 23) dc_prog_51_method_1_code_22 rfl rfl ?_
  refine go_icmpNo C (pc' := 26) dc_prog_51_method_1_code_23 (by decide) rfl ?_
  refine go_aloadN C (pc' := 27) dc_prog_51_method_1_code_26 rfl rfl rfl ?_
  refine go_getF C (pc' := 30) (host := "") (Or.inl (wd_12 hw)) Via.refl ((((((F2.ext E3).other W4 (Or.inr (slot_ne (a0 := a0) (Or.inr (wd_13 hw)) (Or.inr (wd_16 hw)) (by decide) (t := (.array (.array .int))) (t' := (.array .int)) (by decide) (by decide)))).ext E5).other W6 (Or.inl ne_b_b1)).ext E7).other W8 (Or.inl ne_b_b1)) dc_prog_51_method_1_code_27 rfl ?_
  refine go_iloadN C (pc' := 31) dc_prog_51_method_1_code_30 rfl rfl ?_
  refine go_bipush C (pc' := 33) dc_prog_51_method_1_code_31 (z := (16 : Int32)) (by decide) rfl ?_
  refine go_newPE C (pc' := 35) (len := 16) (ty := .int) rfl (ad := "[I") rfl (wd_14 hw) dc_prog_51_method_1_code_33 rfl (by decide) (by decide) (by decide) (by decide) (by decide) ?_
  intro h9 b9 k9 g9 n9 E9 A9 X9
  have sz_b9 := Nat.le_trans (Nat.le_trans (Nat.le_trans (Nat.le_trans (Nat.le_trans (Nat.le_trans (Nat.le_trans (Nat.le_trans (Nat.le_trans (Nat.le_refl _) E1.1) (Nat.le_of_eq W2.size.symm)) E3.1) (Nat.le_of_eq W4.size.symm)) E5.1) (Nat.le_of_eq W6.size.symm)) E7.1) (Nat.le_of_eq W8.size.symm)) (Nat.le_of_eq g9.symm)
  have ne_b_b9 : b ≠ b9 := Nat.ne_of_lt (by rw [g9]; exact ((((((((E_b.ext E1).wr W2).ext E3).wr W4).ext E5).wr W6).ext E7).wr W8).lt)
  have ne_b1_b9 : b1 ≠ b9 := Nat.ne_of_lt (by rw [g9]; exact A8.lt)
  have ne_b3_b9 : b3 ≠ b9 := Nat.ne_of_lt (by rw [g9]; exact (((((A3.other W4 (Ne.symm ne_b_b3)).ext E5).other W6 (Ne.symm ne_b1_b3)).ext E7).other W8 (Ne.symm ne_b1_b3)).lt)
  have ne_b5_b9 : b5 ≠ b9 := Nat.ne_of_lt (by rw [g9]; exact (((A5.other W6 (Ne.symm ne_b1_b5)).ext E7).other W8 (Ne.symm ne_b1_b5)).lt)
  have ne_b7_b9 : b7 ≠ b9 := Nat.ne_of_lt (by rw [g9]; exact (A7.other W8 (Ne.symm ne_b1_b7)).lt)
  refine go_aaset C (pc' := 36) (A8.ext E9) V1 (Ins.self X9) (by decide) (i := 2) (by decide) (by simp) (vs' := [(.ref b5), (.ref b7), (.ref b9)]) rfl dc_prog_51_method_1_code_35 rfl n1 ?_
  intro h10 W10 A10
  refine go_iinc C (pc' := 39) dc_prog_51_method_1_code_36 rfl (Ls' := #[(.val (.ref b)), (.val (.int (3 : Int32))), (.val (.int ((2 : Int32) + (1 : Int32))))]) rfl rfl ?_
  refine go_ls (Ls' := #[(.val (.ref b)), (.val (.int (3 : Int32))), (.val (.int (3 : Int32)))]) (by rw [show ((2 : Int32) + (1 : Int32)) = (3 : Int32) from by decide]) ?_
  refine go_goto C (pc' := 21) dc_prog_51_method_1_code_39 (by decide) (by decide) ?_
  refine go_iloadN C (pc' := 22) dc_prog_51_method_1_code_21 rfl rfl ?_
  refine go_iloadN C (pc' := 23) dc_prog_51_method_1_code_22 rfl rfl ?_
  refine go_icmpYes C (pc' := 42) dc_prog_51_method_1_code_23 (by decide) (by decide) (by decide) ?_
  exact go_ret0 C dc_prog_51_method_1_code_42 (by decide) (by decide) ⟨rfl, ⟨b1, b3, k1, _, (fun i => ([b5, b7, b9] : List Addr).getD i 0), (fun i => ([k5, k7, k9] : List ClassId).getD i 0), _, _, (fun _ => List.replicate 16 (.int 0)), ((((((((((E_b.ext E1).wr W2).ext E3).wr W4).ext E5).wr W6).ext E7).wr W8).ext E9).wr W10), ((((((((F2.ext E3).other W4 (Or.inr (slot_ne (a0 := a0) (Or.inr (wd_13 hw)) (Or.inr (wd_16 hw)) (by decide) (t := (.array (.array .int))) (t' := (.array .int)) (by decide) (by decide)))).ext E5).other W6 (Or.inl ne_b_b1)).ext E7).other W8 (Or.inl ne_b_b1)).ext E9).other W10 (Or.inl ne_b_b1)), ((((((F4.ext E5).other W6 (Or.inl ne_b_b1)).ext E7).other W8 (Or.inl ne_b_b1)).ext E9).other W10 (Or.inl ne_b_b1)), ((((((((((F_b_lowest.ext E1).other W2 (Or.inr (slot_ne (a0 := a0) (Or.inl (wd_36 hw)) (Or.inr (wd_13 hw)) (by decide) (t := .long) (t' := (.array (.array .int))) (by decide) (by decide)))).ext E3).other W4 (Or.inr (slot_ne (a0 := a0) (Or.inl (wd_36 hw)) (Or.inr (wd_16 hw)) (by decide) (t := .long) (t' := (.array .int)) (by decide) (by decide)))).ext E5).other W6 (Or.inl ne_b_b1)).ext E7).other W8 (Or.inl ne_b_b1)).ext E9).other W10 (Or.inl ne_b_b1)), ((((((((((F_b_size.ext E1).other W2 (Or.inr (slot_ne (a0 := a0) (Or.inl (wd_24 hw)) (Or.inr (wd_13 hw)) (by decide) (t := .long) (t' := (.array (.array .int))) (by decide) (by decide)))).ext E3).other W4 (Or.inr (slot_ne (a0 := a0) (Or.inl (wd_24 hw)) (Or.inr (wd_16 hw)) (by decide) (t := .long) (t' := (.array .int)) (by decide) (by decide)))).ext E5).other W6 (Or.inl ne_b_b1)).ext E7).other W8 (Or.inl ne_b_b1)).ext E9).other W10 (Or.inl ne_b_b1)), A10, rfl, (fun i hi => by match i, hi with | 0, _ => rfl | 1, _ => rfl | 2, _ => rfl), (((((((A3.other W4 (Ne.symm ne_b_b3)).ext E5).other W6 (Ne.symm ne_b1_b3)).ext E7).other W8 (Ne.symm ne_b1_b3)).ext E9).other W10 (Ne.symm ne_b1_b3)), rfl, (fun i hi => by match i, hi with | 0, _ => rfl | 1, _ => rfl | 2, _ => rfl), (fun i hi => by match i, hi with | 0, _ => exact (((((A5.other W6 (Ne.symm ne_b1_b5)).ext E7).other W8 (Ne.symm ne_b1_b5)).ext E9).other W10 (Ne.symm ne_b1_b5)) | 1, _ => exact (((A7.other W8 (Ne.symm ne_b1_b7)).ext E9).other W10 (Ne.symm ne_b1_b7)) | 2, _ => exact (A9.other W10 (Ne.symm ne_b1_b9))), (fun i hi => rfl), (fun i hi j x hx => by simp at hx), ⟨(Ne.symm ne_b_b1), (Ne.symm ne_b_b3), (Ne.symm ne_b1_b3), (fun i hi => by match i, hi with | 0, _ => exact ⟨(Ne.symm ne_b_b5), (Ne.symm ne_b1_b5), (Ne.symm ne_b3_b5)⟩ | 1, _ => exact ⟨(Ne.symm ne_b_b7), (Ne.symm ne_b1_b7), (Ne.symm ne_b3_b7)⟩ | 2, _ => exact ⟨(Ne.symm ne_b_b9), (Ne.symm ne_b1_b9), (Ne.symm ne_b3_b9)⟩), (fun i j hi hj hij => by match i, hi, j, hj with | 0, _, 0, _ => exact absurd rfl hij | 0, _, 1, _ => exact ne_b5_b7 | 0, _, 2, _ => exact ne_b5_b9 | 1, _, 0, _ => exact (Ne.symm ne_b5_b7) | 1, _, 1, _ => exact absurd rfl hij | 1, _, 2, _ => exact ne_b7_b9 | 2, _, 0, _ => exact (Ne.symm ne_b5_b9) | 2, _, 1, _ => exact (Ne.symm ne_b7_b9) | 2, _, 2, _ => exact absurd rfl hij)⟩, nb, n1, n3, (fun i hi => by match i, hi with | 0, _ => exact n5 | 1, _ => exact n7 | 2, _ => exact n9)⟩⟩
set_option maxRecDepth 65536 in
set_option maxHeartbeats 4000000 in
theorem init_2 (l : Launch) (Z : State) (a0 : Array Value) (hw : ∀ d ∈ tables_1, d.before a0 Z = true) (n0 : Nat) (h : Heap) (O : Old Z n0 h) (b : Addr) (E_b : Exa Z h b "com/example/invariant/invariant/check/BucketQueue") (F_b_buckets : Fld Z h b "com/example/invariant/invariant/check/BucketQueue" "buckets" "[[I" .null) (F_b_counts : Fld Z h b "com/example/invariant/invariant/check/BucketQueue" "counts" "[I" .null) (F_b_lowest : Fld Z h b "com/example/invariant/invariant/check/BucketQueue" "lowest" "J" (.long (0 : Int64))) (F_b_size : Fld Z h b "com/example/invariant/invariant/check/BucketQueue" "size" "J" (.long (0 : Int64))) (nb : n0 ≤ b) :
    Met l Z n0 (⟨"com/example/invariant/invariant/check/BucketQueue", "<init>", "(I)V"⟩ : MethodName) prog_51_method_1_code 3 none [] ({ frames := 1, cells := 10, slots := 144, locals := 12 } : Room) #[(.ref b), (.int (2 : Int32))] h (fun v h' => v = none ∧ QAt Z h' n0 b 2 (fun _ => []) 0 0) := by
  refine met_of (Ls := #[(.val (.ref b)), (.val (.int (2 : Int32))), .unset]) (by decide +kernel) (fun m => by first | (simp [entryFrame, mkF, argsToLocals, Value.category]; done) | rfl) O ?_
  intro p e s m below meth cd C
  refine go_aloadN C (pc' := 1) dc_prog_51_method_1_code_0 rfl rfl rfl ?_
  refine go_initO C (pc' := 4) (wd_7 hw) (wd_8 hw) (wd_9 hw) rfl dc_prog_51_method_1_code_1 rfl (by decide) (by decide) ?_
  refine go_aloadN C (pc' := 5) dc_prog_51_method_1_code_4 rfl rfl rfl ?_
  refine go_iloadN C (pc' := 6) dc_prog_51_method_1_code_5 rfl rfl ?_
  refine go_newAA C (pc' := 9) (len := 2) (ty := .int) rfl (ad := "[[I") rfl (wd_10 hw) (wd_11 hw) dc_prog_51_method_1_code_6 rfl (by decide) (by decide) (by decide) (by decide) (by decide) ?_
  intro h1 b1 k1 g1 n1 E1 A1 V1 X1
  have sz_b1 := Nat.le_trans (Nat.le_refl _) (Nat.le_of_eq g1.symm)
  have ne_b_b1 : b ≠ b1 := Nat.ne_of_lt (by rw [g1]; exact E_b.lt)
  refine go_putF C (pc' := 12) (host := "") (Or.inl (wd_12 hw)) Via.refl (F_b_buckets.ext E1) (E_b.ext E1) (Or.inr ⟨(wd_13 hw), rfl, rfl⟩) (wd_2 hw) (ty := (.array (.array .int))) (by decide) rfl rfl dc_prog_51_method_1_code_9 rfl nb ?_
  intro h2 W2 F2
  refine go_aloadN C (pc' := 13) dc_prog_51_method_1_code_12 rfl rfl rfl ?_
  refine go_iloadN C (pc' := 14) dc_prog_51_method_1_code_13 rfl rfl ?_
  refine go_newPA C (pc' := 16) (len := 2) (ty := .int) rfl (wd_14 hw) dc_prog_51_method_1_code_14 rfl (by decide) (by decide) (by decide) (by decide) (by decide) ?_
  intro h3 b3 k3 g3 n3 E3 A3
  have sz_b3 := Nat.le_trans (Nat.le_trans (Nat.le_trans (Nat.le_refl _) E1.1) (Nat.le_of_eq W2.size.symm)) (Nat.le_of_eq g3.symm)
  have ne_b_b3 : b ≠ b3 := Nat.ne_of_lt (by rw [g3]; exact ((E_b.ext E1).wr W2).lt)
  have ne_b1_b3 : b1 ≠ b3 := Nat.ne_of_lt (by rw [g3]; exact (A1.other W2 (Ne.symm ne_b_b1)).lt)
  refine go_putF C (pc' := 19) (host := "") (Or.inl (wd_15 hw)) Via.refl (((F_b_counts.ext E1).other W2 (Or.inr (slot_ne (a0 := a0) (Or.inr (wd_16 hw)) (Or.inr (wd_13 hw)) (by decide) (t := (.array .int)) (t' := (.array (.array .int))) (by decide) (by decide)))).ext E3) (((E_b.ext E1).wr W2).ext E3) (Or.inr ⟨(wd_16 hw), rfl, rfl⟩) (wd_2 hw) (ty := (.array .int)) (by decide) rfl rfl dc_prog_51_method_1_code_16 rfl nb ?_
  intro h4 W4 F4
  refine go_iconst C (pc' := 20) dc_prog_51_method_1_code_19 (z := (0 : Int32)) (by decide) rfl ?_
  refine go_istoreN C (pc' := 21) dc_prog_51_method_1_code_20 (Ls' := #[(.val (.ref b)), (.val (.int (2 : Int32))), (.val (.int (0 : Int32)))]) rfl rfl ?_
  refine go_iloadN C (pc' := 22) dc_prog_51_method_1_code_21 rfl rfl ?_
  refine go_iloadN C (pc' := 23) dc_prog_51_method_1_code_22 rfl rfl ?_
  refine go_icmpNo C (pc' := 26) dc_prog_51_method_1_code_23 (by decide) rfl ?_
  refine go_aloadN C (pc' := 27) dc_prog_51_method_1_code_26 rfl rfl rfl ?_
  refine go_getF C (pc' := 30) (host := "") (Or.inl (wd_12 hw)) Via.refl ((F2.ext E3).other W4 (Or.inr (slot_ne (a0 := a0) (Or.inr (wd_13 hw)) (Or.inr (wd_16 hw)) (by decide) (t := (.array (.array .int))) (t' := (.array .int)) (by decide) (by decide)))) dc_prog_51_method_1_code_27 rfl ?_
  refine go_iloadN C (pc' := 31) dc_prog_51_method_1_code_30 rfl rfl ?_
  refine go_bipush C (pc' := 33) dc_prog_51_method_1_code_31 (z := (16 : Int32)) (by decide) rfl ?_
  refine go_newPE C (pc' := 35) (len := 16) (ty := .int) rfl (ad := "[I") rfl (wd_14 hw) dc_prog_51_method_1_code_33 rfl (by decide) (by decide) (by decide) (by decide) (by decide) ?_
  intro h5 b5 k5 g5 n5 E5 A5 X5
  have sz_b5 := Nat.le_trans (Nat.le_trans (Nat.le_trans (Nat.le_trans (Nat.le_trans (Nat.le_refl _) E1.1) (Nat.le_of_eq W2.size.symm)) E3.1) (Nat.le_of_eq W4.size.symm)) (Nat.le_of_eq g5.symm)
  have ne_b_b5 : b ≠ b5 := Nat.ne_of_lt (by rw [g5]; exact ((((E_b.ext E1).wr W2).ext E3).wr W4).lt)
  have ne_b1_b5 : b1 ≠ b5 := Nat.ne_of_lt (by rw [g5]; exact (((A1.other W2 (Ne.symm ne_b_b1)).ext E3).other W4 (Ne.symm ne_b_b1)).lt)
  have ne_b3_b5 : b3 ≠ b5 := Nat.ne_of_lt (by rw [g5]; exact (A3.other W4 (Ne.symm ne_b_b3)).lt)
  refine go_aaset C (pc' := 36) ((((A1.other W2 (Ne.symm ne_b_b1)).ext E3).other W4 (Ne.symm ne_b_b1)).ext E5) V1 (Ins.self X5) (by decide) (i := 0) (by decide) (by simp) (vs' := [(.ref b5), .null]) rfl dc_prog_51_method_1_code_35 rfl n1 ?_
  intro h6 W6 A6
  refine go_iinc C (pc' := 39) dc_prog_51_method_1_code_36 rfl (Ls' := #[(.val (.ref b)), (.val (.int (2 : Int32))), (.val (.int ((0 : Int32) + (1 : Int32))))]) rfl rfl ?_
  refine go_ls (Ls' := #[(.val (.ref b)), (.val (.int (2 : Int32))), (.val (.int (1 : Int32)))]) (by rw [show ((0 : Int32) + (1 : Int32)) = (1 : Int32) from by decide]) ?_
  refine go_goto C (pc' := 21) dc_prog_51_method_1_code_39 (by decide) (by decide) ?_
  refine go_iloadN C (pc' := 22) dc_prog_51_method_1_code_21 rfl rfl ?_
  refine go_iloadN C (pc' := 23) dc_prog_51_method_1_code_22 rfl rfl ?_
  refine go_icmpNo C (pc' := 26) dc_prog_51_method_1_code_23 (by decide) rfl ?_
  refine go_aloadN C (pc' := 27) dc_prog_51_method_1_code_26 rfl rfl rfl ?_
  refine go_getF C (pc' := 30) (host := "") (Or.inl (wd_12 hw)) Via.refl ((((F2.ext E3).other W4 (Or.inr (slot_ne (a0 := a0) (Or.inr (wd_13 hw)) (Or.inr (wd_16 hw)) (by decide) (t := (.array (.array .int))) (t' := (.array .int)) (by decide) (by decide)))).ext E5).other W6 (Or.inl ne_b_b1)) dc_prog_51_method_1_code_27 rfl ?_
  refine go_iloadN C (pc' := 31) dc_prog_51_method_1_code_30 rfl rfl ?_
  refine go_bipush C (pc' := 33) dc_prog_51_method_1_code_31 (z := (16 : Int32)) (by decide) rfl ?_
  refine go_newPE C (pc' := 35) (len := 16) (ty := .int) rfl (ad := "[I") rfl (wd_14 hw) dc_prog_51_method_1_code_33 rfl (by decide) (by decide) (by decide) (by decide) (by decide) ?_
  intro h7 b7 k7 g7 n7 E7 A7 X7
  have sz_b7 := Nat.le_trans (Nat.le_trans (Nat.le_trans (Nat.le_trans (Nat.le_trans (Nat.le_trans (Nat.le_trans (Nat.le_refl _) E1.1) (Nat.le_of_eq W2.size.symm)) E3.1) (Nat.le_of_eq W4.size.symm)) E5.1) (Nat.le_of_eq W6.size.symm)) (Nat.le_of_eq g7.symm)
  have ne_b_b7 : b ≠ b7 := Nat.ne_of_lt (by rw [g7]; exact ((((((E_b.ext E1).wr W2).ext E3).wr W4).ext E5).wr W6).lt)
  have ne_b1_b7 : b1 ≠ b7 := Nat.ne_of_lt (by rw [g7]; exact A6.lt)
  have ne_b3_b7 : b3 ≠ b7 := Nat.ne_of_lt (by rw [g7]; exact (((A3.other W4 (Ne.symm ne_b_b3)).ext E5).other W6 (Ne.symm ne_b1_b3)).lt)
  have ne_b5_b7 : b5 ≠ b7 := Nat.ne_of_lt (by rw [g7]; exact (A5.other W6 (Ne.symm ne_b1_b5)).lt)
  refine go_aaset C (pc' := 36) (A6.ext E7) V1 (Ins.self X7) (by decide) (i := 1) (by decide) (by simp) (vs' := [(.ref b5), (.ref b7)]) rfl dc_prog_51_method_1_code_35 rfl n1 ?_
  intro h8 W8 A8
  refine go_iinc C (pc' := 39) dc_prog_51_method_1_code_36 rfl (Ls' := #[(.val (.ref b)), (.val (.int (2 : Int32))), (.val (.int ((1 : Int32) + (1 : Int32))))]) rfl rfl ?_
  refine go_ls (Ls' := #[(.val (.ref b)), (.val (.int (2 : Int32))), (.val (.int (2 : Int32)))]) (by rw [show ((1 : Int32) + (1 : Int32)) = (2 : Int32) from by decide]) ?_
  refine go_goto C (pc' := 21) dc_prog_51_method_1_code_39 (by decide) (by decide) ?_
  refine go_iloadN C (pc' := 22) dc_prog_51_method_1_code_21 rfl rfl ?_
  refine go_iloadN C (pc' := 23) dc_prog_51_method_1_code_22 rfl rfl ?_
  refine go_icmpYes C (pc' := 42) dc_prog_51_method_1_code_23 (by decide) (by decide) (by decide) ?_
  exact go_ret0 C dc_prog_51_method_1_code_42 (by decide) (by decide) ⟨rfl, ⟨b1, b3, k1, _, (fun i => ([b5, b7] : List Addr).getD i 0), (fun i => ([k5, k7] : List ClassId).getD i 0), _, _, (fun _ => List.replicate 16 (.int 0)), ((((((((E_b.ext E1).wr W2).ext E3).wr W4).ext E5).wr W6).ext E7).wr W8), ((((((F2.ext E3).other W4 (Or.inr (slot_ne (a0 := a0) (Or.inr (wd_13 hw)) (Or.inr (wd_16 hw)) (by decide) (t := (.array (.array .int))) (t' := (.array .int)) (by decide) (by decide)))).ext E5).other W6 (Or.inl ne_b_b1)).ext E7).other W8 (Or.inl ne_b_b1)), ((((F4.ext E5).other W6 (Or.inl ne_b_b1)).ext E7).other W8 (Or.inl ne_b_b1)), ((((((((F_b_lowest.ext E1).other W2 (Or.inr (slot_ne (a0 := a0) (Or.inl (wd_36 hw)) (Or.inr (wd_13 hw)) (by decide) (t := .long) (t' := (.array (.array .int))) (by decide) (by decide)))).ext E3).other W4 (Or.inr (slot_ne (a0 := a0) (Or.inl (wd_36 hw)) (Or.inr (wd_16 hw)) (by decide) (t := .long) (t' := (.array .int)) (by decide) (by decide)))).ext E5).other W6 (Or.inl ne_b_b1)).ext E7).other W8 (Or.inl ne_b_b1)), ((((((((F_b_size.ext E1).other W2 (Or.inr (slot_ne (a0 := a0) (Or.inl (wd_24 hw)) (Or.inr (wd_13 hw)) (by decide) (t := .long) (t' := (.array (.array .int))) (by decide) (by decide)))).ext E3).other W4 (Or.inr (slot_ne (a0 := a0) (Or.inl (wd_24 hw)) (Or.inr (wd_16 hw)) (by decide) (t := .long) (t' := (.array .int)) (by decide) (by decide)))).ext E5).other W6 (Or.inl ne_b_b1)).ext E7).other W8 (Or.inl ne_b_b1)), A8, rfl, (fun i hi => by match i, hi with | 0, _ => rfl | 1, _ => rfl), (((((A3.other W4 (Ne.symm ne_b_b3)).ext E5).other W6 (Ne.symm ne_b1_b3)).ext E7).other W8 (Ne.symm ne_b1_b3)), rfl, (fun i hi => by match i, hi with | 0, _ => rfl | 1, _ => rfl), (fun i hi => by match i, hi with | 0, _ => exact (((A5.other W6 (Ne.symm ne_b1_b5)).ext E7).other W8 (Ne.symm ne_b1_b5)) | 1, _ => exact (A7.other W8 (Ne.symm ne_b1_b7))), (fun i hi => rfl), (fun i hi j x hx => by simp at hx), ⟨(Ne.symm ne_b_b1), (Ne.symm ne_b_b3), (Ne.symm ne_b1_b3), (fun i hi => by match i, hi with | 0, _ => exact ⟨(Ne.symm ne_b_b5), (Ne.symm ne_b1_b5), (Ne.symm ne_b3_b5)⟩ | 1, _ => exact ⟨(Ne.symm ne_b_b7), (Ne.symm ne_b1_b7), (Ne.symm ne_b3_b7)⟩), (fun i j hi hj hij => by match i, hi, j, hj with | 0, _, 0, _ => exact absurd rfl hij | 0, _, 1, _ => exact ne_b5_b7 | 1, _, 0, _ => exact (Ne.symm ne_b5_b7) | 1, _, 1, _ => exact absurd rfl hij)⟩, nb, n1, n3, (fun i hi => by match i, hi with | 0, _ => exact n5 | 1, _ => exact n7)⟩⟩
set_option maxRecDepth 65536 in
set_option maxHeartbeats 4000000 in
theorem init_1 (l : Launch) (Z : State) (a0 : Array Value) (hw : ∀ d ∈ tables_1, d.before a0 Z = true) (n0 : Nat) (h : Heap) (O : Old Z n0 h) (b : Addr) (E_b : Exa Z h b "com/example/invariant/invariant/check/BucketQueue") (F_b_buckets : Fld Z h b "com/example/invariant/invariant/check/BucketQueue" "buckets" "[[I" .null) (F_b_counts : Fld Z h b "com/example/invariant/invariant/check/BucketQueue" "counts" "[I" .null) (F_b_lowest : Fld Z h b "com/example/invariant/invariant/check/BucketQueue" "lowest" "J" (.long (0 : Int64))) (F_b_size : Fld Z h b "com/example/invariant/invariant/check/BucketQueue" "size" "J" (.long (0 : Int64))) (nb : n0 ≤ b) :
    Met l Z n0 (⟨"com/example/invariant/invariant/check/BucketQueue", "<init>", "(I)V"⟩ : MethodName) prog_51_method_1_code 3 none [] ({ frames := 1, cells := 10, slots := 144, locals := 12 } : Room) #[(.ref b), (.int (1 : Int32))] h (fun v h' => v = none ∧ QAt Z h' n0 b 1 (fun _ => []) 0 0) := by
  refine met_of (Ls := #[(.val (.ref b)), (.val (.int (1 : Int32))), .unset]) (by decide +kernel) (fun m => by first | (simp [entryFrame, mkF, argsToLocals, Value.category]; done) | rfl) O ?_
  intro p e s m below meth cd C
  refine go_aloadN C (pc' := 1) dc_prog_51_method_1_code_0 rfl rfl rfl ?_
  refine go_initO C (pc' := 4) (wd_7 hw) (wd_8 hw) (wd_9 hw) rfl dc_prog_51_method_1_code_1 rfl (by decide) (by decide) ?_
  refine go_aloadN C (pc' := 5) dc_prog_51_method_1_code_4 rfl rfl rfl ?_
  refine go_iloadN C (pc' := 6) dc_prog_51_method_1_code_5 rfl rfl ?_
  refine go_newAA C (pc' := 9) (len := 1) (ty := .int) rfl (ad := "[[I") rfl (wd_10 hw) (wd_11 hw) dc_prog_51_method_1_code_6 rfl (by decide) (by decide) (by decide) (by decide) (by decide) ?_
  intro h1 b1 k1 g1 n1 E1 A1 V1 X1
  have sz_b1 := Nat.le_trans (Nat.le_refl _) (Nat.le_of_eq g1.symm)
  have ne_b_b1 : b ≠ b1 := Nat.ne_of_lt (by rw [g1]; exact E_b.lt)
  refine go_putF C (pc' := 12) (host := "") (Or.inl (wd_12 hw)) Via.refl (F_b_buckets.ext E1) (E_b.ext E1) (Or.inr ⟨(wd_13 hw), rfl, rfl⟩) (wd_2 hw) (ty := (.array (.array .int))) (by decide) rfl rfl dc_prog_51_method_1_code_9 rfl nb ?_
  intro h2 W2 F2
  refine go_aloadN C (pc' := 13) dc_prog_51_method_1_code_12 rfl rfl rfl ?_
  refine go_iloadN C (pc' := 14) dc_prog_51_method_1_code_13 rfl rfl ?_
  refine go_newPA C (pc' := 16) (len := 1) (ty := .int) rfl (wd_14 hw) dc_prog_51_method_1_code_14 rfl (by decide) (by decide) (by decide) (by decide) (by decide) ?_
  intro h3 b3 k3 g3 n3 E3 A3
  have sz_b3 := Nat.le_trans (Nat.le_trans (Nat.le_trans (Nat.le_refl _) E1.1) (Nat.le_of_eq W2.size.symm)) (Nat.le_of_eq g3.symm)
  have ne_b_b3 : b ≠ b3 := Nat.ne_of_lt (by rw [g3]; exact ((E_b.ext E1).wr W2).lt)
  have ne_b1_b3 : b1 ≠ b3 := Nat.ne_of_lt (by rw [g3]; exact (A1.other W2 (Ne.symm ne_b_b1)).lt)
  refine go_putF C (pc' := 19) (host := "") (Or.inl (wd_15 hw)) Via.refl (((F_b_counts.ext E1).other W2 (Or.inr (slot_ne (a0 := a0) (Or.inr (wd_16 hw)) (Or.inr (wd_13 hw)) (by decide) (t := (.array .int)) (t' := (.array (.array .int))) (by decide) (by decide)))).ext E3) (((E_b.ext E1).wr W2).ext E3) (Or.inr ⟨(wd_16 hw), rfl, rfl⟩) (wd_2 hw) (ty := (.array .int)) (by decide) rfl rfl dc_prog_51_method_1_code_16 rfl nb ?_
  intro h4 W4 F4
  refine go_iconst C (pc' := 20) dc_prog_51_method_1_code_19 (z := (0 : Int32)) (by decide) rfl ?_
  refine go_istoreN C (pc' := 21) dc_prog_51_method_1_code_20 (Ls' := #[(.val (.ref b)), (.val (.int (1 : Int32))), (.val (.int (0 : Int32)))]) rfl rfl ?_
  refine go_iloadN C (pc' := 22) dc_prog_51_method_1_code_21 rfl rfl ?_
  refine go_iloadN C (pc' := 23) dc_prog_51_method_1_code_22 rfl rfl ?_
  refine go_icmpNo C (pc' := 26) dc_prog_51_method_1_code_23 (by decide) rfl ?_
  refine go_aloadN C (pc' := 27) dc_prog_51_method_1_code_26 rfl rfl rfl ?_
  refine go_getF C (pc' := 30) (host := "") (Or.inl (wd_12 hw)) Via.refl ((F2.ext E3).other W4 (Or.inr (slot_ne (a0 := a0) (Or.inr (wd_13 hw)) (Or.inr (wd_16 hw)) (by decide) (t := (.array (.array .int))) (t' := (.array .int)) (by decide) (by decide)))) dc_prog_51_method_1_code_27 rfl ?_
  refine go_iloadN C (pc' := 31) dc_prog_51_method_1_code_30 rfl rfl ?_
  refine go_bipush C (pc' := 33) dc_prog_51_method_1_code_31 (z := (16 : Int32)) (by decide) rfl ?_
  refine go_newPE C (pc' := 35) (len := 16) (ty := .int) rfl (ad := "[I") rfl (wd_14 hw) dc_prog_51_method_1_code_33 rfl (by decide) (by decide) (by decide) (by decide) (by decide) ?_
  intro h5 b5 k5 g5 n5 E5 A5 X5
  have sz_b5 := Nat.le_trans (Nat.le_trans (Nat.le_trans (Nat.le_trans (Nat.le_trans (Nat.le_refl _) E1.1) (Nat.le_of_eq W2.size.symm)) E3.1) (Nat.le_of_eq W4.size.symm)) (Nat.le_of_eq g5.symm)
  have ne_b_b5 : b ≠ b5 := Nat.ne_of_lt (by rw [g5]; exact ((((E_b.ext E1).wr W2).ext E3).wr W4).lt)
  have ne_b1_b5 : b1 ≠ b5 := Nat.ne_of_lt (by rw [g5]; exact (((A1.other W2 (Ne.symm ne_b_b1)).ext E3).other W4 (Ne.symm ne_b_b1)).lt)
  have ne_b3_b5 : b3 ≠ b5 := Nat.ne_of_lt (by rw [g5]; exact (A3.other W4 (Ne.symm ne_b_b3)).lt)
  refine go_aaset C (pc' := 36) ((((A1.other W2 (Ne.symm ne_b_b1)).ext E3).other W4 (Ne.symm ne_b_b1)).ext E5) V1 (Ins.self X5) (by decide) (i := 0) (by decide) (by simp) (vs' := [(.ref b5)]) rfl dc_prog_51_method_1_code_35 rfl n1 ?_
  intro h6 W6 A6
  refine go_iinc C (pc' := 39) dc_prog_51_method_1_code_36 rfl (Ls' := #[(.val (.ref b)), (.val (.int (1 : Int32))), (.val (.int ((0 : Int32) + (1 : Int32))))]) rfl rfl ?_
  refine go_ls (Ls' := #[(.val (.ref b)), (.val (.int (1 : Int32))), (.val (.int (1 : Int32)))]) (by rw [show ((0 : Int32) + (1 : Int32)) = (1 : Int32) from by decide]) ?_
  refine go_goto C (pc' := 21) dc_prog_51_method_1_code_39 (by decide) (by decide) ?_
  refine go_iloadN C (pc' := 22) dc_prog_51_method_1_code_21 rfl rfl ?_
  refine go_iloadN C (pc' := 23) dc_prog_51_method_1_code_22 rfl rfl ?_
  refine go_icmpYes C (pc' := 42) dc_prog_51_method_1_code_23 (by decide) (by decide) (by decide) ?_
  exact go_ret0 C dc_prog_51_method_1_code_42 (by decide) (by decide) ⟨rfl, ⟨b1, b3, k1, _, (fun i => ([b5] : List Addr).getD i 0), (fun i => ([k5] : List ClassId).getD i 0), _, _, (fun _ => List.replicate 16 (.int 0)), ((((((E_b.ext E1).wr W2).ext E3).wr W4).ext E5).wr W6), ((((F2.ext E3).other W4 (Or.inr (slot_ne (a0 := a0) (Or.inr (wd_13 hw)) (Or.inr (wd_16 hw)) (by decide) (t := (.array (.array .int))) (t' := (.array .int)) (by decide) (by decide)))).ext E5).other W6 (Or.inl ne_b_b1)), ((F4.ext E5).other W6 (Or.inl ne_b_b1)), ((((((F_b_lowest.ext E1).other W2 (Or.inr (slot_ne (a0 := a0) (Or.inl (wd_36 hw)) (Or.inr (wd_13 hw)) (by decide) (t := .long) (t' := (.array (.array .int))) (by decide) (by decide)))).ext E3).other W4 (Or.inr (slot_ne (a0 := a0) (Or.inl (wd_36 hw)) (Or.inr (wd_16 hw)) (by decide) (t := .long) (t' := (.array .int)) (by decide) (by decide)))).ext E5).other W6 (Or.inl ne_b_b1)), ((((((F_b_size.ext E1).other W2 (Or.inr (slot_ne (a0 := a0) (Or.inl (wd_24 hw)) (Or.inr (wd_13 hw)) (by decide) (t := .long) (t' := (.array (.array .int))) (by decide) (by decide)))).ext E3).other W4 (Or.inr (slot_ne (a0 := a0) (Or.inl (wd_24 hw)) (Or.inr (wd_16 hw)) (by decide) (t := .long) (t' := (.array .int)) (by decide) (by decide)))).ext E5).other W6 (Or.inl ne_b_b1)), A6, rfl, (fun i hi => by match i, hi with | 0, _ => rfl), (((A3.other W4 (Ne.symm ne_b_b3)).ext E5).other W6 (Ne.symm ne_b1_b3)), rfl, (fun i hi => by match i, hi with | 0, _ => rfl), (fun i hi => by match i, hi with | 0, _ => exact (A5.other W6 (Ne.symm ne_b1_b5))), (fun i hi => rfl), (fun i hi j x hx => by simp at hx), ⟨(Ne.symm ne_b_b1), (Ne.symm ne_b_b3), (Ne.symm ne_b1_b3), (fun i hi => by match i, hi with | 0, _ => exact ⟨(Ne.symm ne_b_b5), (Ne.symm ne_b1_b5), (Ne.symm ne_b3_b5)⟩), (fun i j hi hj hij => by match i, hi, j, hj with | 0, _, 0, _ => exact absurd rfl hij)⟩, nb, n1, n3, (fun i hi => by match i, hi with | 0, _ => exact n5)⟩⟩
theorem init_met (l : Launch) (Z : State) (a0 : Array Value) (hw : ∀ d ∈ tables_1, d.before a0 Z = true) (n0 : Nat) (h : Heap) (O : Old Z n0 h) (n : Nat) (hn : 0 < n) (hn8 : n ≤ 8) (b : Addr) (E_b : Exa Z h b "com/example/invariant/invariant/check/BucketQueue") (F_b_buckets : Fld Z h b "com/example/invariant/invariant/check/BucketQueue" "buckets" "[[I" .null) (F_b_counts : Fld Z h b "com/example/invariant/invariant/check/BucketQueue" "counts" "[I" .null) (F_b_lowest : Fld Z h b "com/example/invariant/invariant/check/BucketQueue" "lowest" "J" (.long (0 : Int64))) (F_b_size : Fld Z h b "com/example/invariant/invariant/check/BucketQueue" "size" "J" (.long (0 : Int64))) (nb : n0 ≤ b) :
    Met l Z n0 (⟨"com/example/invariant/invariant/check/BucketQueue", "<init>", "(I)V"⟩ : MethodName) prog_51_method_1_code 3 none [] ({ frames := 1, cells := 10, slots := 144, locals := 12 } : Room) #[.ref b, .int n.toInt32] h (fun v h' => v = none ∧ QAt Z h' n0 b n (fun _ => []) 0 0) := by
  match n, hn, hn8 with
  | 1, _, _ => exact init_1 l Z a0 hw n0 h O b E_b F_b_buckets F_b_counts F_b_lowest F_b_size nb
  | 2, _, _ => exact init_2 l Z a0 hw n0 h O b E_b F_b_buckets F_b_counts F_b_lowest F_b_size nb
  | 3, _, _ => exact init_3 l Z a0 hw n0 h O b E_b F_b_buckets F_b_counts F_b_lowest F_b_size nb
  | 4, _, _ => exact init_4 l Z a0 hw n0 h O b E_b F_b_buckets F_b_counts F_b_lowest F_b_size nb
  | 5, _, _ => exact init_5 l Z a0 hw n0 h O b E_b F_b_buckets F_b_counts F_b_lowest F_b_size nb
  | 6, _, _ => exact init_6 l Z a0 hw n0 h O b E_b F_b_buckets F_b_counts F_b_lowest F_b_size nb
  | 7, _, _ => exact init_7 l Z a0 hw n0 h O b E_b F_b_buckets F_b_counts F_b_lowest F_b_size nb
  | 8, _, _ => exact init_8 l Z a0 hw n0 h O b E_b F_b_buckets F_b_counts F_b_lowest F_b_size nb
abbrev e0 : Nat → List Int32 := fun _ => []
abbrev f1 (i r : Nat) (a b : Int32) : Nat → List Int32 := upd (upd e0 i [a]) r (upd e0 i [a] r ++ [b])
theorem f1_none {i r j : Nat} {a b : Int32} (h1 : j ≠ i) (h2 : j ≠ r) : f1 i r a b j = [] := by rw [f1, upd_ne _ _ h2, upd_ne _ _ h1]
theorem f1_fst {i r : Nat} {a b : Int32} (h : i ≠ r) : f1 i r a b i = [] ++ [a] := by rw [f1, upd_ne _ _ h, upd_same]; rfl
theorem f1_snd {i r : Nat} {a b : Int32} (h : i ≠ r) : f1 i r a b r = [] ++ [b] := by rw [f1, upd_same, upd_ne _ _ (Ne.symm h)]
theorem f1_both {i : Nat} {a b : Int32} : f1 i i a b i = [a] ++ [b] := by rw [f1, upd_same, upd_same]
theorem f1_push {i r : Nat} {a b : Int32} : upd (upd e0 i (e0 i ++ [a])) r (upd e0 i (e0 i ++ [a]) r ++ [b]) = f1 i r a b := rfl
theorem f2_fst {i r : Nat} {a b : Int32} (h : i ≠ r) : upd (f1 i r a b) i [] = upd e0 r [b] := by
  funext j
  by_cases h1 : j = i
  · subst h1; rw [upd_same, upd_ne _ _ h]
  · rw [upd_ne _ _ h1]
    by_cases h2 : j = r
    · subst h2; rw [f1_snd h, upd_same]; rfl
    · rw [f1_none h1 h2, upd_ne _ _ h2]
theorem f2_snd {i r : Nat} {a b : Int32} (h : i ≠ r) : upd (f1 i r a b) r [] = upd e0 i [a] := by
  funext j
  by_cases h1 : j = r
  · subst h1; rw [upd_same, upd_ne _ _ (Ne.symm h)]
  · rw [upd_ne _ _ h1]
    by_cases h2 : j = i
    · subst h2; rw [f1_fst h, upd_same]; rfl
    · rw [f1_none h2 h1, upd_ne _ _ h2]
theorem f2_both {i : Nat} {a b : Int32} : upd (f1 i i a b) i [a] = upd e0 i [a] := by
  funext j
  by_cases h1 : j = i
  · subst h1; rw [upd_same, upd_same]
  · rw [upd_ne _ _ h1, f1_none h1 h1, upd_ne _ _ h1]
theorem one_none {i j : Nat} {a : Int32} (h : j ≠ i) : upd e0 i [a] j = [] := by rw [upd_ne _ _ h]
theorem one_at {i : Nat} {a : Int32} : upd e0 i [a] i = [] ++ [a] := by rw [upd_same]; rfl
theorem own_modne {n a b : Nat} (h1 : a < b) (h2 : b < a + n) : a % n ≠ b % n := fun q => by
  have z := Nat.sub_mod_eq_zero_of_mod_eq q.symm
  rw [Nat.mod_eq_of_lt (by omega)] at z
  omega
theorem own_span (x : Int32) : ∃ n : Nat, 0 < n ∧ n ≤ 8 ∧ (1 : Int32) + (x &&& (7 : Int32)) = n.toInt32 := by
  have h := c_and x 7 (by decide)
  have h7 : (7 : Int32).toInt = 7 := by decide
  have h3 := c_iadd 1 (x &&& 7)
  have r := rng32 (1 + (x &&& 7))
  have e : (1 : Int32).toInt = 1 := by decide
  rw [e] at h3
  refine ⟨((x &&& 7).toInt + 1).toNat, by omega, by omega, Int32.toInt_inj.mp ?_⟩
  rw [len_toInt (by omega)]
  omega
theorem own_remN (x : Int32) (n : Nat) (h0 : 0 ≤ x.toInt) (hn : 0 < n) (hn8 : n ≤ 8) : 0 ≤ (x % n.toInt32).toInt64.toInt ∧ (x % n.toInt32).toInt64.toInt < n := by
  have hz : n.toInt32.toInt = n := len_toInt (by omega)
  have h := (c_irem x n.toInt32 n hz).1 h0
  rw [Int32.toInt_toInt64, h]
  exact ⟨Int.emod_nonneg _ (by omega), Int.emod_lt_of_pos _ (by omega)⟩
theorem own_nz (n : Nat) (hn : 0 < n) (hn8 : n ≤ 8) : n.toInt32 ≠ 0 := fun q => by
  have hz : n.toInt32.toInt = n := len_toInt (by omega)
  rw [q] at hz
  have : (0 : Int32).toInt = 0 := by decide
  omega
theorem own_addL (x y : Int64) (h1 : 0 ≤ x.toInt) (h2 : 0 ≤ y.toInt) (h3 : x.toInt < 1000) (h4 : y.toInt < 1000) : (x + y).toInt = x.toInt + y.toInt := by
  have h3 := c_ladd x y
  have r := rng64 (x + y)
  omega
theorem QAt.cast {Z : State} {h : Heap} {n0 : Nat} {b : Addr} {n : Nat} {f g : Nat → List Int32} {lo sz : Int64} (hQ : QAt Z h n0 b n f lo sz) (e : f = g) : QAt Z h n0 b n g lo sz := e ▸ hQ
set_option maxRecDepth 65536 in
set_option maxHeartbeats 40000000 in
theorem law_tail (l : Launch) (Z : State) (a0 : Array Value) (hw : ∀ d ∈ tables_1, d.before a0 Z = true) (x0 x1 x2 x3 x4 x5 : Int32) (n : Nat) (hn : 0 < n) (hn8 : n ≤ 8) (c1 c2 d3 mn rc : Int64) (p1 r : Int32) (b : Addr) (h : Heap) (hd0 : 0 ≤ d3.toInt) (hd1 : d3.toInt < n) (hm0 : 0 ≤ mn.toInt) (hm1 : mn.toInt ≤ rc.toInt) (hm2 : rc.toInt < mn.toInt + n) (hm3 : mn.toInt < n) (O : Old Z Z.heap.size h) (hQ : QAt Z h Z.heap.size b n (upd e0 (rc.toInt.toNat % n) [r]) mn 1) (p : Program) (e : Env) (s : State) (m : MethodId) (below : List Frame) (meth : Method) (cd : Code) (C : Ctx p s m meth cd Z x code maxLocals ret) (cs sl : Nat) (hcs : cs ≤ 32) (hsl : sl ≤ 384) :
    Go p l e room_1 s m #[(.int x0), (.int x1), (.int x2), (.int x3), (.int x4), (.int x5)] below meth cd Z Z.heap.size (fun v _ => v = some (.int (1 : Int32))) room_1.cells room_1.slots h cs sl (mkF m 253 #[(.val (.int x0)), (.val (.int x1)), (.val (.int x2)), (.val (.int x3)), (.val (.int x4)), (.val (.int x5)), (.val (.int n.toInt32)), (.val (.long c1)), .second, (.val (.long c2)), .second, (.val (.long d3)), .second, (.val (.ref b)), (.val (.int (1 : Int32))), (.val (.int p1)), (.val (.long mn)), .second, (.val (.long mn)), .second, (.val (.int r)), (.val (.long rc)), .second, .unset, .unset, .unset, .unset, .unset, .unset, .unset, .unset] []) := by
  refine go_iload C (pc' := 255) at_253 rfl rfl ?_
  refine go_ifNo C (pc' := 258) at_255 (by decide) rfl ?_
  refine go_aload C (pc' := 260) at_258 rfl rfl rfl ?_
  refine go_callV C (pc' := 263) (y' := (⟨"com/example/invariant/invariant/check/BucketQueue", "isEmpty", "()Z"⟩ : MethodName)) (wd_18 hw) (wd_19 hw) (wd_21 hw) (wd_20 hw) (empty_met l Z a0 hw _ _ O b n _ _ (1 : Int64) hQ (0 : Int32) (by decide)) (wd_22 hw) (wd_3 hw) (by decide) (by decide) (W := 0) (Nat.le_of_ble_eq_true rfl) (by decide) hcs hsl rfl (q_exa hQ) (argsL := []) (rest := []) pd_0 rfl rfl rfl at_260 rfl ?_
  rintro _ _ ⟨rfl, rfl⟩
  refine go_st (st' := [(.int (0 : Int32))]) rfl ?_
  refine go_ifNo C (pc' := 266) at_263 (by decide) rfl ?_
  refine go_iconst C (pc' := 267) at_266 (z := (1 : Int32)) (by decide) rfl ?_
  refine go_goto C (pc' := 271) at_267 (by decide) (by decide) ?_
  refine go_istore C (pc' := 273) at_271 (Ls' := #[(.val (.int x0)), (.val (.int x1)), (.val (.int x2)), (.val (.int x3)), (.val (.int x4)), (.val (.int x5)), (.val (.int n.toInt32)), (.val (.long c1)), .second, (.val (.long c2)), .second, (.val (.long d3)), .second, (.val (.ref b)), (.val (.int (1 : Int32))), (.val (.int p1)), (.val (.long mn)), .second, (.val (.long mn)), .second, (.val (.int r)), (.val (.long rc)), .second, .unset, .unset, .unset, .unset, .unset, .unset, .unset, .unset]) rfl rfl ?_
  refine go_lload C (pc' := 275) at_273 rfl rfl ?_
  refine go_lload C (pc' := 277) at_275 rfl rfl ?_
  refine go_ladd C (pc' := 278) at_277 rfl ?_
  refine go_lstore C (pc' := 280) at_278 (Ls' := #[(.val (.int x0)), (.val (.int x1)), (.val (.int x2)), (.val (.int x3)), (.val (.int x4)), (.val (.int x5)), (.val (.int n.toInt32)), (.val (.long c1)), .second, (.val (.long c2)), .second, (.val (.long d3)), .second, (.val (.ref b)), (.val (.int (1 : Int32))), (.val (.int p1)), (.val (.long mn)), .second, (.val (.long mn)), .second, (.val (.int r)), (.val (.long rc)), .second, (.val (.long (mn + d3))), .second, .unset, .unset, .unset, .unset, .unset, .unset]) rfl rfl ?_
  have h3 := own_addL mn d3 hm0 hd0 (by omega) (by omega)
  generalize (mn + d3) = c3 at h3 ⊢
  refine go_aload C (pc' := 282) at_280 rfl rfl rfl ?_
  refine go_iload C (pc' := 284) at_282 rfl rfl ?_
  refine go_lload C (pc' := 286) at_284 rfl rfl ?_
  have hlen3 : (upd e0 (rc.toInt.toNat % n) [r] (c3.toInt.toNat % n)).length < 16 := by
    by_cases e : c3.toInt.toNat % n = rc.toInt.toNat % n
    · rw [e, upd_same]; simp [e0]
    · rw [upd_ne _ _ e]; simp [e0]
  refine go_callV C (pc' := 289) (y' := (⟨"com/example/invariant/invariant/check/BucketQueue", "push", "(IJ)V"⟩ : MethodName)) (wd_25 hw) (wd_26 hw) (wd_28 hw) (wd_27 hw) (push_met l Z a0 hw _ _ O b n hn hn8 _ _ _ hQ x5 c3 (c3.toInt.toNat % n) (Nat.mod_lt _ hn) (by omega) rfl hlen3) (wd_29 hw) (wd_3 hw) (by decide) (by decide) (W := 0) (Nat.le_of_ble_eq_true rfl) (by decide) hcs hsl rfl (q_exa hQ) (argsL := [(.int x5), (.long c3)]) (rest := []) pd_1 rfl rfl rfl at_286 rfl ?_
  rintro _ g1 ⟨rfl, hQ1⟩
  refine go_st (st' := []) rfl ?_
  refine go_old fun O1 => ?_
  refine go_aload C (pc' := 291) at_289 rfl rfl rfl ?_
  rcases Int.lt_trichotomy rc.toInt c3.toInt with hlt | heq | hgt
  · skip
    have hne : rc.toInt.toNat % n ≠ c3.toInt.toNat % n := own_modne (by omega) (by omega)
    refine go_callV C (pc' := 294) (y' := (⟨"com/example/invariant/invariant/check/BucketQueue", "pop", "()I"⟩ : MethodName)) (wd_30 hw) (wd_31 hw) (wd_33 hw) (wd_32 hw) (pop_met l Z a0 hw _ _ O1 b n hn hn8 _ mn _ hQ1 rc (by omega) (by omega) (by omega) (fun t h1 h2 => f1_none (own_modne (by omega) (by omega)) (own_modne (by omega) (by omega))) (rc.toInt.toNat % n) (Nat.mod_lt _ hn) rfl [] r (f1_fst hne)) (wd_34 hw) (wd_3 hw) (by decide) (by decide) (W := 0) (Nat.le_of_ble_eq_true rfl) (by decide) hcs hsl rfl (q_exa hQ1) (argsL := []) (rest := []) pd_2 rfl rfl rfl at_291 rfl ?_
    rintro _ g2 ⟨rfl, hQ2⟩
    refine go_st (st' := [(.int r)]) rfl ?_
    refine go_old fun O2 => ?_
    replace hQ2 := hQ2.cast (f2_fst hne)
    refine go_istore C (pc' := 296) at_294 (Ls' := #[(.val (.int x0)), (.val (.int x1)), (.val (.int x2)), (.val (.int x3)), (.val (.int x4)), (.val (.int x5)), (.val (.int n.toInt32)), (.val (.long c1)), .second, (.val (.long c2)), .second, (.val (.long d3)), .second, (.val (.ref b)), (.val (.int (1 : Int32))), (.val (.int p1)), (.val (.long mn)), .second, (.val (.long mn)), .second, (.val (.int r)), (.val (.long rc)), .second, (.val (.long c3)), .second, (.val (.int r)), .unset, .unset, .unset, .unset, .unset]) rfl rfl ?_
    refine go_aload C (pc' := 298) at_296 rfl rfl rfl ?_
    refine go_callV C (pc' := 301) (y' := (⟨"com/example/invariant/invariant/check/BucketQueue", "lowest", "()J"⟩ : MethodName)) (wd_37 hw) (wd_38 hw) (wd_40 hw) (wd_39 hw) (lowest_met l Z a0 hw _ _ O2 b n _ _ _ hQ2) (wd_41 hw) (wd_3 hw) (by decide) (by decide) (W := 0) (Nat.le_of_ble_eq_true rfl) (by decide) hcs hsl rfl (q_exa hQ2) (argsL := []) (rest := []) pd_3 rfl rfl rfl at_298 rfl ?_
    rintro _ _ ⟨rfl, rfl⟩
    refine go_st (st' := [(.long rc)]) rfl ?_
    refine go_lstore C (pc' := 303) at_301 (Ls' := #[(.val (.int x0)), (.val (.int x1)), (.val (.int x2)), (.val (.int x3)), (.val (.int x4)), (.val (.int x5)), (.val (.int n.toInt32)), (.val (.long c1)), .second, (.val (.long c2)), .second, (.val (.long d3)), .second, (.val (.ref b)), (.val (.int (1 : Int32))), (.val (.int p1)), (.val (.long mn)), .second, (.val (.long mn)), .second, (.val (.int r)), (.val (.long rc)), .second, (.val (.long c3)), .second, (.val (.int r)), (.val (.long rc)), .second, .unset, .unset, .unset]) rfl rfl ?_
    refine go_iload C (pc' := 305) at_303 rfl rfl ?_
    refine go_ifNo C (pc' := 308) at_305 (by decide) rfl ?_
    refine go_aload C (pc' := 310) at_308 rfl rfl rfl ?_
    refine go_callV C (pc' := 313) (y' := (⟨"com/example/invariant/invariant/check/BucketQueue", "isEmpty", "()Z"⟩ : MethodName)) (wd_18 hw) (wd_19 hw) (wd_21 hw) (wd_20 hw) (empty_met l Z a0 hw _ _ O2 b n _ _ ((1 : Int64) + 1 - 1) hQ2 (0 : Int32) (by decide)) (wd_22 hw) (wd_3 hw) (by decide) (by decide) (W := 0) (Nat.le_of_ble_eq_true rfl) (by decide) hcs hsl rfl (q_exa hQ2) (argsL := []) (rest := []) pd_0 rfl rfl rfl at_310 rfl ?_
    rintro _ _ ⟨rfl, rfl⟩
    refine go_st (st' := [(.int (0 : Int32))]) rfl ?_
    refine go_ifNo C (pc' := 316) at_313 (by decide) rfl ?_
    refine go_iconst C (pc' := 317) at_316 (z := (1 : Int32)) (by decide) rfl ?_
    refine go_goto C (pc' := 321) at_317 (by decide) (by decide) ?_
    refine go_istore C (pc' := 323) at_321 (Ls' := #[(.val (.int x0)), (.val (.int x1)), (.val (.int x2)), (.val (.int x3)), (.val (.int x4)), (.val (.int x5)), (.val (.int n.toInt32)), (.val (.long c1)), .second, (.val (.long c2)), .second, (.val (.long d3)), .second, (.val (.ref b)), (.val (.int (1 : Int32))), (.val (.int p1)), (.val (.long mn)), .second, (.val (.long mn)), .second, (.val (.int r)), (.val (.long rc)), .second, (.val (.long c3)), .second, (.val (.int r)), (.val (.long rc)), .second, .unset, .unset, .unset]) rfl rfl ?_
    refine go_aload C (pc' := 325) at_323 rfl rfl rfl ?_
    refine go_callV C (pc' := 328) (y' := (⟨"com/example/invariant/invariant/check/BucketQueue", "pop", "()I"⟩ : MethodName)) (wd_30 hw) (wd_31 hw) (wd_33 hw) (wd_32 hw) (pop_met l Z a0 hw _ _ O2 b n hn hn8 _ rc _ hQ2 c3 (by omega) (by omega) (by omega) (fun t h1 h2 => one_none (own_modne (by omega) (by omega))) (c3.toInt.toNat % n) (Nat.mod_lt _ hn) rfl [] x5 one_at) (wd_34 hw) (wd_3 hw) (by decide) (by decide) (W := 0) (Nat.le_of_ble_eq_true rfl) (by decide) hcs hsl rfl (q_exa hQ2) (argsL := []) (rest := []) pd_2 rfl rfl rfl at_325 rfl ?_
    rintro _ g3 ⟨rfl, hQ3⟩
    refine go_st (st' := [(.int x5)]) rfl ?_
    refine go_old fun O3 => ?_
    refine go_istore C (pc' := 330) at_328 (Ls' := #[(.val (.int x0)), (.val (.int x1)), (.val (.int x2)), (.val (.int x3)), (.val (.int x4)), (.val (.int x5)), (.val (.int n.toInt32)), (.val (.long c1)), .second, (.val (.long c2)), .second, (.val (.long d3)), .second, (.val (.ref b)), (.val (.int (1 : Int32))), (.val (.int p1)), (.val (.long mn)), .second, (.val (.long mn)), .second, (.val (.int r)), (.val (.long rc)), .second, (.val (.long c3)), .second, (.val (.int r)), (.val (.long rc)), .second, (.val (.int x5)), .unset, .unset]) rfl rfl ?_
    refine go_aload C (pc' := 332) at_330 rfl rfl rfl ?_
    refine go_callV C (pc' := 335) (y' := (⟨"com/example/invariant/invariant/check/BucketQueue", "lowest", "()J"⟩ : MethodName)) (wd_37 hw) (wd_38 hw) (wd_40 hw) (wd_39 hw) (lowest_met l Z a0 hw _ _ O3 b n _ _ _ hQ3) (wd_41 hw) (wd_3 hw) (by decide) (by decide) (W := 0) (Nat.le_of_ble_eq_true rfl) (by decide) hcs hsl rfl (q_exa hQ3) (argsL := []) (rest := []) pd_3 rfl rfl rfl at_332 rfl ?_
    rintro _ _ ⟨rfl, rfl⟩
    refine go_st (st' := [(.long c3)]) rfl ?_
    refine go_lstore C (pc' := 337) at_335 (Ls' := #[(.val (.int x0)), (.val (.int x1)), (.val (.int x2)), (.val (.int x3)), (.val (.int x4)), (.val (.int x5)), (.val (.int n.toInt32)), (.val (.long c1)), .second, (.val (.long c2)), .second, (.val (.long d3)), .second, (.val (.ref b)), (.val (.int (1 : Int32))), (.val (.int p1)), (.val (.long mn)), .second, (.val (.long mn)), .second, (.val (.int r)), (.val (.long rc)), .second, (.val (.long c3)), .second, (.val (.int r)), (.val (.long rc)), .second, (.val (.int x5)), (.val (.long c3)), .second]) rfl rfl ?_
    refine go_iload C (pc' := 339) at_337 rfl rfl ?_
    refine go_ifNo C (pc' := 342) at_339 (by decide) rfl ?_
    refine go_aload C (pc' := 344) at_342 rfl rfl rfl ?_
    refine go_callV C (pc' := 347) (y' := (⟨"com/example/invariant/invariant/check/BucketQueue", "isEmpty", "()Z"⟩ : MethodName)) (wd_18 hw) (wd_19 hw) (wd_21 hw) (wd_20 hw) (empty_met l Z a0 hw _ _ O3 b n _ _ ((1 : Int64) + 1 - 1 - 1) hQ3 (1 : Int32) (by decide)) (wd_22 hw) (wd_3 hw) (by decide) (by decide) (W := 0) (Nat.le_of_ble_eq_true rfl) (by decide) hcs hsl rfl (q_exa hQ3) (argsL := []) (rest := []) pd_0 rfl rfl rfl at_344 rfl ?_
    rintro _ _ ⟨rfl, rfl⟩
    refine go_st (st' := [(.int (1 : Int32))]) rfl ?_
    refine go_ifNo C (pc' := 350) at_347 (by decide) rfl ?_
    refine go_iconst C (pc' := 351) at_350 (z := (1 : Int32)) (by decide) rfl ?_
    refine go_goto C (pc' := 355) at_351 (by decide) (by decide) ?_
    refine go_istore C (pc' := 357) at_355 (Ls' := #[(.val (.int x0)), (.val (.int x1)), (.val (.int x2)), (.val (.int x3)), (.val (.int x4)), (.val (.int x5)), (.val (.int n.toInt32)), (.val (.long c1)), .second, (.val (.long c2)), .second, (.val (.long d3)), .second, (.val (.ref b)), (.val (.int (1 : Int32))), (.val (.int p1)), (.val (.long mn)), .second, (.val (.long mn)), .second, (.val (.int r)), (.val (.long rc)), .second, (.val (.long c3)), .second, (.val (.int r)), (.val (.long rc)), .second, (.val (.int x5)), (.val (.long c3)), .second]) rfl rfl ?_
    refine go_lload C (pc' := 359) at_357 rfl rfl ?_
    refine go_lload C (pc' := 361) at_359 rfl rfl ?_
    refine go_lcmp C (pc' := 362) at_361 rfl ?_
    refine go_ifNo C (pc' := 365) at_362 ((if0 _ _).trans (tlt ((lw_lt _ _).mpr (Int64.lt_iff_toInt_lt.mpr hlt))).2.1) rfl ?_
    refine go_iload C (pc' := 367) at_365 rfl rfl ?_
    refine go_ifNo C (pc' := 370) at_367 (by decide) rfl ?_
    refine go_iload C (pc' := 372) at_370 rfl rfl ?_
    refine go_iload C (pc' := 374) at_372 rfl rfl ?_
    refine go_icmpNo C (pc' := 377) at_374 (teq rfl).2 rfl ?_
    refine go_lload C (pc' := 379) at_377 rfl rfl ?_
    refine go_lload C (pc' := 381) at_379 rfl rfl ?_
    refine go_lcmp C (pc' := 382) at_381 rfl ?_
    refine go_ifNo C (pc' := 385) at_382 ((if0 _ _).trans (teq ((lw_eq _ _).mpr rfl)).2) rfl ?_
    refine go_iload C (pc' := 387) at_385 rfl rfl ?_
    refine go_iload C (pc' := 389) at_387 rfl rfl ?_
    refine go_icmpNo C (pc' := 392) at_389 (teq rfl).2 rfl ?_
    refine go_lload C (pc' := 394) at_392 rfl rfl ?_
    refine go_lload C (pc' := 396) at_394 rfl rfl ?_
    refine go_lcmp C (pc' := 397) at_396 rfl ?_
    refine go_ifNo C (pc' := 400) at_397 ((if0 _ _).trans (teq ((lw_eq _ _).mpr rfl)).2) rfl ?_
    refine go_iconst C (pc' := 401) at_400 (z := (1 : Int32)) (by decide) rfl ?_
    refine go_goto C (pc' := 405) at_401 (by decide) (by decide) ?_
    refine go_istore C (pc' := 407) at_405 (Ls' := #[(.val (.int x0)), (.val (.int x1)), (.val (.int x2)), (.val (.int x3)), (.val (.int x4)), (.val (.int x5)), (.val (.int n.toInt32)), (.val (.long c1)), .second, (.val (.long c2)), .second, (.val (.long d3)), .second, (.val (.ref b)), (.val (.int (1 : Int32))), (.val (.int p1)), (.val (.long mn)), .second, (.val (.long mn)), .second, (.val (.int r)), (.val (.long rc)), .second, (.val (.long c3)), .second, (.val (.int r)), (.val (.long rc)), .second, (.val (.int x5)), (.val (.long c3)), .second]) rfl rfl ?_
    refine go_goto C (pc' := 519) at_407 (by decide) (by decide) ?_
    refine go_iload C (pc' := 521) at_519 rfl rfl ?_
    exact go_retN C (by simp) (z' := (1 : Int32)) (by decide) at_521 hcs hsl rfl
  · skip
    obtain rfl : rc = c3 := Int64.toInt_inj.mp heq
    refine go_callV C (pc' := 294) (y' := (⟨"com/example/invariant/invariant/check/BucketQueue", "pop", "()I"⟩ : MethodName)) (wd_30 hw) (wd_31 hw) (wd_33 hw) (wd_32 hw) (pop_met l Z a0 hw _ _ O1 b n hn hn8 _ mn _ hQ1 rc (by omega) (by omega) (by omega) (fun t h1 h2 => f1_none (own_modne (by omega) (by omega)) (own_modne (by omega) (by omega))) (rc.toInt.toNat % n) (Nat.mod_lt _ hn) rfl [r] x5 f1_both) (wd_34 hw) (wd_3 hw) (by decide) (by decide) (W := 0) (Nat.le_of_ble_eq_true rfl) (by decide) hcs hsl rfl (q_exa hQ1) (argsL := []) (rest := []) pd_2 rfl rfl rfl at_291 rfl ?_
    rintro _ g4 ⟨rfl, hQ2⟩
    refine go_st (st' := [(.int x5)]) rfl ?_
    refine go_old fun O4 => ?_
    replace hQ2 := hQ2.cast f2_both
    refine go_istore C (pc' := 296) at_294 (Ls' := #[(.val (.int x0)), (.val (.int x1)), (.val (.int x2)), (.val (.int x3)), (.val (.int x4)), (.val (.int x5)), (.val (.int n.toInt32)), (.val (.long c1)), .second, (.val (.long c2)), .second, (.val (.long d3)), .second, (.val (.ref b)), (.val (.int (1 : Int32))), (.val (.int p1)), (.val (.long mn)), .second, (.val (.long mn)), .second, (.val (.int r)), (.val (.long rc)), .second, (.val (.long rc)), .second, (.val (.int x5)), .unset, .unset, .unset, .unset, .unset]) rfl rfl ?_
    refine go_aload C (pc' := 298) at_296 rfl rfl rfl ?_
    refine go_callV C (pc' := 301) (y' := (⟨"com/example/invariant/invariant/check/BucketQueue", "lowest", "()J"⟩ : MethodName)) (wd_37 hw) (wd_38 hw) (wd_40 hw) (wd_39 hw) (lowest_met l Z a0 hw _ _ O4 b n _ _ _ hQ2) (wd_41 hw) (wd_3 hw) (by decide) (by decide) (W := 0) (Nat.le_of_ble_eq_true rfl) (by decide) hcs hsl rfl (q_exa hQ2) (argsL := []) (rest := []) pd_3 rfl rfl rfl at_298 rfl ?_
    rintro _ _ ⟨rfl, rfl⟩
    refine go_st (st' := [(.long rc)]) rfl ?_
    refine go_lstore C (pc' := 303) at_301 (Ls' := #[(.val (.int x0)), (.val (.int x1)), (.val (.int x2)), (.val (.int x3)), (.val (.int x4)), (.val (.int x5)), (.val (.int n.toInt32)), (.val (.long c1)), .second, (.val (.long c2)), .second, (.val (.long d3)), .second, (.val (.ref b)), (.val (.int (1 : Int32))), (.val (.int p1)), (.val (.long mn)), .second, (.val (.long mn)), .second, (.val (.int r)), (.val (.long rc)), .second, (.val (.long rc)), .second, (.val (.int x5)), (.val (.long rc)), .second, .unset, .unset, .unset]) rfl rfl ?_
    refine go_iload C (pc' := 305) at_303 rfl rfl ?_
    refine go_ifNo C (pc' := 308) at_305 (by decide) rfl ?_
    refine go_aload C (pc' := 310) at_308 rfl rfl rfl ?_
    refine go_callV C (pc' := 313) (y' := (⟨"com/example/invariant/invariant/check/BucketQueue", "isEmpty", "()Z"⟩ : MethodName)) (wd_18 hw) (wd_19 hw) (wd_21 hw) (wd_20 hw) (empty_met l Z a0 hw _ _ O4 b n _ _ ((1 : Int64) + 1 - 1) hQ2 (0 : Int32) (by decide)) (wd_22 hw) (wd_3 hw) (by decide) (by decide) (W := 0) (Nat.le_of_ble_eq_true rfl) (by decide) hcs hsl rfl (q_exa hQ2) (argsL := []) (rest := []) pd_0 rfl rfl rfl at_310 rfl ?_
    rintro _ _ ⟨rfl, rfl⟩
    refine go_st (st' := [(.int (0 : Int32))]) rfl ?_
    refine go_ifNo C (pc' := 316) at_313 (by decide) rfl ?_
    refine go_iconst C (pc' := 317) at_316 (z := (1 : Int32)) (by decide) rfl ?_
    refine go_goto C (pc' := 321) at_317 (by decide) (by decide) ?_
    refine go_istore C (pc' := 323) at_321 (Ls' := #[(.val (.int x0)), (.val (.int x1)), (.val (.int x2)), (.val (.int x3)), (.val (.int x4)), (.val (.int x5)), (.val (.int n.toInt32)), (.val (.long c1)), .second, (.val (.long c2)), .second, (.val (.long d3)), .second, (.val (.ref b)), (.val (.int (1 : Int32))), (.val (.int p1)), (.val (.long mn)), .second, (.val (.long mn)), .second, (.val (.int r)), (.val (.long rc)), .second, (.val (.long rc)), .second, (.val (.int x5)), (.val (.long rc)), .second, .unset, .unset, .unset]) rfl rfl ?_
    refine go_aload C (pc' := 325) at_323 rfl rfl rfl ?_
    refine go_callV C (pc' := 328) (y' := (⟨"com/example/invariant/invariant/check/BucketQueue", "pop", "()I"⟩ : MethodName)) (wd_30 hw) (wd_31 hw) (wd_33 hw) (wd_32 hw) (pop_met l Z a0 hw _ _ O4 b n hn hn8 _ rc _ hQ2 rc (by omega) (by omega) (by omega) (fun t h1 h2 => by omega) (rc.toInt.toNat % n) (Nat.mod_lt _ hn) rfl [] r one_at) (wd_34 hw) (wd_3 hw) (by decide) (by decide) (W := 0) (Nat.le_of_ble_eq_true rfl) (by decide) hcs hsl rfl (q_exa hQ2) (argsL := []) (rest := []) pd_2 rfl rfl rfl at_325 rfl ?_
    rintro _ g5 ⟨rfl, hQ3⟩
    refine go_st (st' := [(.int r)]) rfl ?_
    refine go_old fun O5 => ?_
    refine go_istore C (pc' := 330) at_328 (Ls' := #[(.val (.int x0)), (.val (.int x1)), (.val (.int x2)), (.val (.int x3)), (.val (.int x4)), (.val (.int x5)), (.val (.int n.toInt32)), (.val (.long c1)), .second, (.val (.long c2)), .second, (.val (.long d3)), .second, (.val (.ref b)), (.val (.int (1 : Int32))), (.val (.int p1)), (.val (.long mn)), .second, (.val (.long mn)), .second, (.val (.int r)), (.val (.long rc)), .second, (.val (.long rc)), .second, (.val (.int x5)), (.val (.long rc)), .second, (.val (.int r)), .unset, .unset]) rfl rfl ?_
    refine go_aload C (pc' := 332) at_330 rfl rfl rfl ?_
    refine go_callV C (pc' := 335) (y' := (⟨"com/example/invariant/invariant/check/BucketQueue", "lowest", "()J"⟩ : MethodName)) (wd_37 hw) (wd_38 hw) (wd_40 hw) (wd_39 hw) (lowest_met l Z a0 hw _ _ O5 b n _ _ _ hQ3) (wd_41 hw) (wd_3 hw) (by decide) (by decide) (W := 0) (Nat.le_of_ble_eq_true rfl) (by decide) hcs hsl rfl (q_exa hQ3) (argsL := []) (rest := []) pd_3 rfl rfl rfl at_332 rfl ?_
    rintro _ _ ⟨rfl, rfl⟩
    refine go_st (st' := [(.long rc)]) rfl ?_
    refine go_lstore C (pc' := 337) at_335 (Ls' := #[(.val (.int x0)), (.val (.int x1)), (.val (.int x2)), (.val (.int x3)), (.val (.int x4)), (.val (.int x5)), (.val (.int n.toInt32)), (.val (.long c1)), .second, (.val (.long c2)), .second, (.val (.long d3)), .second, (.val (.ref b)), (.val (.int (1 : Int32))), (.val (.int p1)), (.val (.long mn)), .second, (.val (.long mn)), .second, (.val (.int r)), (.val (.long rc)), .second, (.val (.long rc)), .second, (.val (.int x5)), (.val (.long rc)), .second, (.val (.int r)), (.val (.long rc)), .second]) rfl rfl ?_
    refine go_iload C (pc' := 339) at_337 rfl rfl ?_
    refine go_ifNo C (pc' := 342) at_339 (by decide) rfl ?_
    refine go_aload C (pc' := 344) at_342 rfl rfl rfl ?_
    refine go_callV C (pc' := 347) (y' := (⟨"com/example/invariant/invariant/check/BucketQueue", "isEmpty", "()Z"⟩ : MethodName)) (wd_18 hw) (wd_19 hw) (wd_21 hw) (wd_20 hw) (empty_met l Z a0 hw _ _ O5 b n _ _ ((1 : Int64) + 1 - 1 - 1) hQ3 (1 : Int32) (by decide)) (wd_22 hw) (wd_3 hw) (by decide) (by decide) (W := 0) (Nat.le_of_ble_eq_true rfl) (by decide) hcs hsl rfl (q_exa hQ3) (argsL := []) (rest := []) pd_0 rfl rfl rfl at_344 rfl ?_
    rintro _ _ ⟨rfl, rfl⟩
    refine go_st (st' := [(.int (1 : Int32))]) rfl ?_
    refine go_ifNo C (pc' := 350) at_347 (by decide) rfl ?_
    refine go_iconst C (pc' := 351) at_350 (z := (1 : Int32)) (by decide) rfl ?_
    refine go_goto C (pc' := 355) at_351 (by decide) (by decide) ?_
    refine go_istore C (pc' := 357) at_355 (Ls' := #[(.val (.int x0)), (.val (.int x1)), (.val (.int x2)), (.val (.int x3)), (.val (.int x4)), (.val (.int x5)), (.val (.int n.toInt32)), (.val (.long c1)), .second, (.val (.long c2)), .second, (.val (.long d3)), .second, (.val (.ref b)), (.val (.int (1 : Int32))), (.val (.int p1)), (.val (.long mn)), .second, (.val (.long mn)), .second, (.val (.int r)), (.val (.long rc)), .second, (.val (.long rc)), .second, (.val (.int x5)), (.val (.long rc)), .second, (.val (.int r)), (.val (.long rc)), .second]) rfl rfl ?_
    refine go_lload C (pc' := 359) at_357 rfl rfl ?_
    refine go_lload C (pc' := 361) at_359 rfl rfl ?_
    refine go_lcmp C (pc' := 362) at_361 rfl ?_
    refine go_ifYes C (pc' := 410) at_362 ((if0 _ _).trans (flt (fun q => by have q2 := Int64.lt_iff_toInt_lt.mp ((lw_lt _ _).mp q); omega)).2.1) (by decide) (by decide) ?_
    refine go_lload C (pc' := 412) at_410 rfl rfl ?_
    refine go_lload C (pc' := 414) at_412 rfl rfl ?_
    refine go_lcmp C (pc' := 415) at_414 rfl ?_
    refine go_ifYes C (pc' := 463) at_415 ((if0 _ _).trans (flt (fun q => by have q2 := Int64.lt_iff_toInt_lt.mp ((lw_lt _ _).mp q); omega)).2.1) (by decide) (by decide) ?_
    refine go_iload C (pc' := 465) at_463 rfl rfl ?_
    refine go_ifNo C (pc' := 468) at_465 (by decide) rfl ?_
    refine go_lload C (pc' := 470) at_468 rfl rfl ?_
    refine go_lload C (pc' := 472) at_470 rfl rfl ?_
    refine go_lcmp C (pc' := 473) at_472 rfl ?_
    refine go_ifNo C (pc' := 476) at_473 ((if0 _ _).trans (teq ((lw_eq _ _).mpr rfl)).2) rfl ?_
    refine go_lload C (pc' := 478) at_476 rfl rfl ?_
    refine go_lload C (pc' := 480) at_478 rfl rfl ?_
    refine go_lcmp C (pc' := 481) at_480 rfl ?_
    refine go_ifNo C (pc' := 484) at_481 ((if0 _ _).trans (teq ((lw_eq _ _).mpr rfl)).2) rfl ?_
    refine go_iload C (pc' := 486) at_484 rfl rfl ?_
    refine go_iload C (pc' := 488) at_486 rfl rfl ?_
    by_cases hc1 : x5 = r
    · refine go_icmpNo C (pc' := 491) at_488 (teq hc1).2 rfl ?_
      refine go_iload C (pc' := 493) at_491 rfl rfl ?_
      refine go_iload C (pc' := 495) at_493 rfl rfl ?_
      refine go_icmpYes C (pc' := 512) at_495 (teq hc1.symm).1 (by decide) (by decide) ?_
      refine go_iconst C (pc' := 513) at_512 (z := (1 : Int32)) (by decide) rfl ?_
      refine go_goto C (pc' := 517) at_513 (by decide) (by decide) ?_
      refine go_istore C (pc' := 519) at_517 (Ls' := #[(.val (.int x0)), (.val (.int x1)), (.val (.int x2)), (.val (.int x3)), (.val (.int x4)), (.val (.int x5)), (.val (.int n.toInt32)), (.val (.long c1)), .second, (.val (.long c2)), .second, (.val (.long d3)), .second, (.val (.ref b)), (.val (.int (1 : Int32))), (.val (.int p1)), (.val (.long mn)), .second, (.val (.long mn)), .second, (.val (.int r)), (.val (.long rc)), .second, (.val (.long rc)), .second, (.val (.int x5)), (.val (.long rc)), .second, (.val (.int r)), (.val (.long rc)), .second]) rfl rfl ?_
      refine go_iload C (pc' := 521) at_519 rfl rfl ?_
      exact go_retN C (by simp) (z' := (1 : Int32)) (by decide) at_521 hcs hsl rfl
    · refine go_icmpYes C (pc' := 498) at_488 (feq hc1).2 (by decide) (by decide) ?_
      refine go_iload C (pc' := 500) at_498 rfl rfl ?_
      refine go_iload C (pc' := 502) at_500 rfl rfl ?_
      refine go_icmpNo C (pc' := 505) at_502 (teq rfl).2 rfl ?_
      refine go_iload C (pc' := 507) at_505 rfl rfl ?_
      refine go_iload C (pc' := 509) at_507 rfl rfl ?_
      refine go_icmpNo C (pc' := 512) at_509 (teq rfl).2 rfl ?_
      refine go_iconst C (pc' := 513) at_512 (z := (1 : Int32)) (by decide) rfl ?_
      refine go_goto C (pc' := 517) at_513 (by decide) (by decide) ?_
      refine go_istore C (pc' := 519) at_517 (Ls' := #[(.val (.int x0)), (.val (.int x1)), (.val (.int x2)), (.val (.int x3)), (.val (.int x4)), (.val (.int x5)), (.val (.int n.toInt32)), (.val (.long c1)), .second, (.val (.long c2)), .second, (.val (.long d3)), .second, (.val (.ref b)), (.val (.int (1 : Int32))), (.val (.int p1)), (.val (.long mn)), .second, (.val (.long mn)), .second, (.val (.int r)), (.val (.long rc)), .second, (.val (.long rc)), .second, (.val (.int x5)), (.val (.long rc)), .second, (.val (.int r)), (.val (.long rc)), .second]) rfl rfl ?_
      refine go_iload C (pc' := 521) at_519 rfl rfl ?_
      exact go_retN C (by simp) (z' := (1 : Int32)) (by decide) at_521 hcs hsl rfl
  · skip
    have hne : rc.toInt.toNat % n ≠ c3.toInt.toNat % n := Ne.symm (own_modne (by omega) (by omega))
    refine go_callV C (pc' := 294) (y' := (⟨"com/example/invariant/invariant/check/BucketQueue", "pop", "()I"⟩ : MethodName)) (wd_30 hw) (wd_31 hw) (wd_33 hw) (wd_32 hw) (pop_met l Z a0 hw _ _ O1 b n hn hn8 _ mn _ hQ1 c3 (by omega) (by omega) (by omega) (fun t h1 h2 => f1_none (own_modne (by omega) (by omega)) (own_modne (by omega) (by omega))) (c3.toInt.toNat % n) (Nat.mod_lt _ hn) rfl [] x5 (f1_snd hne)) (wd_34 hw) (wd_3 hw) (by decide) (by decide) (W := 0) (Nat.le_of_ble_eq_true rfl) (by decide) hcs hsl rfl (q_exa hQ1) (argsL := []) (rest := []) pd_2 rfl rfl rfl at_291 rfl ?_
    rintro _ g6 ⟨rfl, hQ2⟩
    refine go_st (st' := [(.int x5)]) rfl ?_
    refine go_old fun O6 => ?_
    replace hQ2 := hQ2.cast (f2_snd hne)
    refine go_istore C (pc' := 296) at_294 (Ls' := #[(.val (.int x0)), (.val (.int x1)), (.val (.int x2)), (.val (.int x3)), (.val (.int x4)), (.val (.int x5)), (.val (.int n.toInt32)), (.val (.long c1)), .second, (.val (.long c2)), .second, (.val (.long d3)), .second, (.val (.ref b)), (.val (.int (1 : Int32))), (.val (.int p1)), (.val (.long mn)), .second, (.val (.long mn)), .second, (.val (.int r)), (.val (.long rc)), .second, (.val (.long c3)), .second, (.val (.int x5)), .unset, .unset, .unset, .unset, .unset]) rfl rfl ?_
    refine go_aload C (pc' := 298) at_296 rfl rfl rfl ?_
    refine go_callV C (pc' := 301) (y' := (⟨"com/example/invariant/invariant/check/BucketQueue", "lowest", "()J"⟩ : MethodName)) (wd_37 hw) (wd_38 hw) (wd_40 hw) (wd_39 hw) (lowest_met l Z a0 hw _ _ O6 b n _ _ _ hQ2) (wd_41 hw) (wd_3 hw) (by decide) (by decide) (W := 0) (Nat.le_of_ble_eq_true rfl) (by decide) hcs hsl rfl (q_exa hQ2) (argsL := []) (rest := []) pd_3 rfl rfl rfl at_298 rfl ?_
    rintro _ _ ⟨rfl, rfl⟩
    refine go_st (st' := [(.long c3)]) rfl ?_
    refine go_lstore C (pc' := 303) at_301 (Ls' := #[(.val (.int x0)), (.val (.int x1)), (.val (.int x2)), (.val (.int x3)), (.val (.int x4)), (.val (.int x5)), (.val (.int n.toInt32)), (.val (.long c1)), .second, (.val (.long c2)), .second, (.val (.long d3)), .second, (.val (.ref b)), (.val (.int (1 : Int32))), (.val (.int p1)), (.val (.long mn)), .second, (.val (.long mn)), .second, (.val (.int r)), (.val (.long rc)), .second, (.val (.long c3)), .second, (.val (.int x5)), (.val (.long c3)), .second, .unset, .unset, .unset]) rfl rfl ?_
    refine go_iload C (pc' := 305) at_303 rfl rfl ?_
    refine go_ifNo C (pc' := 308) at_305 (by decide) rfl ?_
    refine go_aload C (pc' := 310) at_308 rfl rfl rfl ?_
    refine go_callV C (pc' := 313) (y' := (⟨"com/example/invariant/invariant/check/BucketQueue", "isEmpty", "()Z"⟩ : MethodName)) (wd_18 hw) (wd_19 hw) (wd_21 hw) (wd_20 hw) (empty_met l Z a0 hw _ _ O6 b n _ _ ((1 : Int64) + 1 - 1) hQ2 (0 : Int32) (by decide)) (wd_22 hw) (wd_3 hw) (by decide) (by decide) (W := 0) (Nat.le_of_ble_eq_true rfl) (by decide) hcs hsl rfl (q_exa hQ2) (argsL := []) (rest := []) pd_0 rfl rfl rfl at_310 rfl ?_
    rintro _ _ ⟨rfl, rfl⟩
    refine go_st (st' := [(.int (0 : Int32))]) rfl ?_
    refine go_ifNo C (pc' := 316) at_313 (by decide) rfl ?_
    refine go_iconst C (pc' := 317) at_316 (z := (1 : Int32)) (by decide) rfl ?_
    refine go_goto C (pc' := 321) at_317 (by decide) (by decide) ?_
    refine go_istore C (pc' := 323) at_321 (Ls' := #[(.val (.int x0)), (.val (.int x1)), (.val (.int x2)), (.val (.int x3)), (.val (.int x4)), (.val (.int x5)), (.val (.int n.toInt32)), (.val (.long c1)), .second, (.val (.long c2)), .second, (.val (.long d3)), .second, (.val (.ref b)), (.val (.int (1 : Int32))), (.val (.int p1)), (.val (.long mn)), .second, (.val (.long mn)), .second, (.val (.int r)), (.val (.long rc)), .second, (.val (.long c3)), .second, (.val (.int x5)), (.val (.long c3)), .second, .unset, .unset, .unset]) rfl rfl ?_
    refine go_aload C (pc' := 325) at_323 rfl rfl rfl ?_
    refine go_callV C (pc' := 328) (y' := (⟨"com/example/invariant/invariant/check/BucketQueue", "pop", "()I"⟩ : MethodName)) (wd_30 hw) (wd_31 hw) (wd_33 hw) (wd_32 hw) (pop_met l Z a0 hw _ _ O6 b n hn hn8 _ c3 _ hQ2 rc (by omega) (by omega) (by omega) (fun t h1 h2 => one_none (own_modne (by omega) (by omega))) (rc.toInt.toNat % n) (Nat.mod_lt _ hn) rfl [] r one_at) (wd_34 hw) (wd_3 hw) (by decide) (by decide) (W := 0) (Nat.le_of_ble_eq_true rfl) (by decide) hcs hsl rfl (q_exa hQ2) (argsL := []) (rest := []) pd_2 rfl rfl rfl at_325 rfl ?_
    rintro _ g7 ⟨rfl, hQ3⟩
    refine go_st (st' := [(.int r)]) rfl ?_
    refine go_old fun O7 => ?_
    refine go_istore C (pc' := 330) at_328 (Ls' := #[(.val (.int x0)), (.val (.int x1)), (.val (.int x2)), (.val (.int x3)), (.val (.int x4)), (.val (.int x5)), (.val (.int n.toInt32)), (.val (.long c1)), .second, (.val (.long c2)), .second, (.val (.long d3)), .second, (.val (.ref b)), (.val (.int (1 : Int32))), (.val (.int p1)), (.val (.long mn)), .second, (.val (.long mn)), .second, (.val (.int r)), (.val (.long rc)), .second, (.val (.long c3)), .second, (.val (.int x5)), (.val (.long c3)), .second, (.val (.int r)), .unset, .unset]) rfl rfl ?_
    refine go_aload C (pc' := 332) at_330 rfl rfl rfl ?_
    refine go_callV C (pc' := 335) (y' := (⟨"com/example/invariant/invariant/check/BucketQueue", "lowest", "()J"⟩ : MethodName)) (wd_37 hw) (wd_38 hw) (wd_40 hw) (wd_39 hw) (lowest_met l Z a0 hw _ _ O7 b n _ _ _ hQ3) (wd_41 hw) (wd_3 hw) (by decide) (by decide) (W := 0) (Nat.le_of_ble_eq_true rfl) (by decide) hcs hsl rfl (q_exa hQ3) (argsL := []) (rest := []) pd_3 rfl rfl rfl at_332 rfl ?_
    rintro _ _ ⟨rfl, rfl⟩
    refine go_st (st' := [(.long rc)]) rfl ?_
    refine go_lstore C (pc' := 337) at_335 (Ls' := #[(.val (.int x0)), (.val (.int x1)), (.val (.int x2)), (.val (.int x3)), (.val (.int x4)), (.val (.int x5)), (.val (.int n.toInt32)), (.val (.long c1)), .second, (.val (.long c2)), .second, (.val (.long d3)), .second, (.val (.ref b)), (.val (.int (1 : Int32))), (.val (.int p1)), (.val (.long mn)), .second, (.val (.long mn)), .second, (.val (.int r)), (.val (.long rc)), .second, (.val (.long c3)), .second, (.val (.int x5)), (.val (.long c3)), .second, (.val (.int r)), (.val (.long rc)), .second]) rfl rfl ?_
    refine go_iload C (pc' := 339) at_337 rfl rfl ?_
    refine go_ifNo C (pc' := 342) at_339 (by decide) rfl ?_
    refine go_aload C (pc' := 344) at_342 rfl rfl rfl ?_
    refine go_callV C (pc' := 347) (y' := (⟨"com/example/invariant/invariant/check/BucketQueue", "isEmpty", "()Z"⟩ : MethodName)) (wd_18 hw) (wd_19 hw) (wd_21 hw) (wd_20 hw) (empty_met l Z a0 hw _ _ O7 b n _ _ ((1 : Int64) + 1 - 1 - 1) hQ3 (1 : Int32) (by decide)) (wd_22 hw) (wd_3 hw) (by decide) (by decide) (W := 0) (Nat.le_of_ble_eq_true rfl) (by decide) hcs hsl rfl (q_exa hQ3) (argsL := []) (rest := []) pd_0 rfl rfl rfl at_344 rfl ?_
    rintro _ _ ⟨rfl, rfl⟩
    refine go_st (st' := [(.int (1 : Int32))]) rfl ?_
    refine go_ifNo C (pc' := 350) at_347 (by decide) rfl ?_
    refine go_iconst C (pc' := 351) at_350 (z := (1 : Int32)) (by decide) rfl ?_
    refine go_goto C (pc' := 355) at_351 (by decide) (by decide) ?_
    refine go_istore C (pc' := 357) at_355 (Ls' := #[(.val (.int x0)), (.val (.int x1)), (.val (.int x2)), (.val (.int x3)), (.val (.int x4)), (.val (.int x5)), (.val (.int n.toInt32)), (.val (.long c1)), .second, (.val (.long c2)), .second, (.val (.long d3)), .second, (.val (.ref b)), (.val (.int (1 : Int32))), (.val (.int p1)), (.val (.long mn)), .second, (.val (.long mn)), .second, (.val (.int r)), (.val (.long rc)), .second, (.val (.long c3)), .second, (.val (.int x5)), (.val (.long c3)), .second, (.val (.int r)), (.val (.long rc)), .second]) rfl rfl ?_
    refine go_lload C (pc' := 359) at_357 rfl rfl ?_
    refine go_lload C (pc' := 361) at_359 rfl rfl ?_
    refine go_lcmp C (pc' := 362) at_361 rfl ?_
    refine go_ifYes C (pc' := 410) at_362 ((if0 _ _).trans (flt (fun q => by have q2 := Int64.lt_iff_toInt_lt.mp ((lw_lt _ _).mp q); omega)).2.1) (by decide) (by decide) ?_
    refine go_lload C (pc' := 412) at_410 rfl rfl ?_
    refine go_lload C (pc' := 414) at_412 rfl rfl ?_
    refine go_lcmp C (pc' := 415) at_414 rfl ?_
    refine go_ifNo C (pc' := 418) at_415 ((if0 _ _).trans (tlt ((lw_lt _ _).mpr (Int64.lt_iff_toInt_lt.mpr hgt))).2.1) rfl ?_
    refine go_iload C (pc' := 420) at_418 rfl rfl ?_
    refine go_ifNo C (pc' := 423) at_420 (by decide) rfl ?_
    refine go_iload C (pc' := 425) at_423 rfl rfl ?_
    refine go_iload C (pc' := 427) at_425 rfl rfl ?_
    refine go_icmpNo C (pc' := 430) at_427 (teq rfl).2 rfl ?_
    refine go_lload C (pc' := 432) at_430 rfl rfl ?_
    refine go_lload C (pc' := 434) at_432 rfl rfl ?_
    refine go_lcmp C (pc' := 435) at_434 rfl ?_
    refine go_ifNo C (pc' := 438) at_435 ((if0 _ _).trans (teq ((lw_eq _ _).mpr rfl)).2) rfl ?_
    refine go_iload C (pc' := 440) at_438 rfl rfl ?_
    refine go_iload C (pc' := 442) at_440 rfl rfl ?_
    refine go_icmpNo C (pc' := 445) at_442 (teq rfl).2 rfl ?_
    refine go_lload C (pc' := 447) at_445 rfl rfl ?_
    refine go_lload C (pc' := 449) at_447 rfl rfl ?_
    refine go_lcmp C (pc' := 450) at_449 rfl ?_
    refine go_ifNo C (pc' := 453) at_450 ((if0 _ _).trans (teq ((lw_eq _ _).mpr rfl)).2) rfl ?_
    refine go_iconst C (pc' := 454) at_453 (z := (1 : Int32)) (by decide) rfl ?_
    refine go_goto C (pc' := 458) at_454 (by decide) (by decide) ?_
    refine go_istore C (pc' := 460) at_458 (Ls' := #[(.val (.int x0)), (.val (.int x1)), (.val (.int x2)), (.val (.int x3)), (.val (.int x4)), (.val (.int x5)), (.val (.int n.toInt32)), (.val (.long c1)), .second, (.val (.long c2)), .second, (.val (.long d3)), .second, (.val (.ref b)), (.val (.int (1 : Int32))), (.val (.int p1)), (.val (.long mn)), .second, (.val (.long mn)), .second, (.val (.int r)), (.val (.long rc)), .second, (.val (.long c3)), .second, (.val (.int x5)), (.val (.long c3)), .second, (.val (.int r)), (.val (.long rc)), .second]) rfl rfl ?_
    refine go_goto C (pc' := 519) at_460 (by decide) (by decide) ?_
    refine go_iload C (pc' := 521) at_519 rfl rfl ?_
    exact go_retN C (by simp) (z' := (1 : Int32)) (by decide) at_521 hcs hsl rfl
set_option maxRecDepth 65536 in
set_option maxHeartbeats 40000000 in
theorem law_met (l : Launch) (Z : State) (a0 : Array Value) (hw : ∀ d ∈ tables_1, d.before a0 Z = true) (x0 : Int32) (x1 : Int32) (x2 : Int32) (x3 : Int32) (x4 : Int32) (x5 : Int32)   :
    Met l Z Z.heap.size x code maxLocals ret tables_1 room_1 #[(.int x0), (.int x1), (.int x2), (.int x3), (.int x4), (.int x5)] Z.heap (fun v _ => v = some (.int (1 : Int32))) := by
  have O := Old.start Z
  refine met_of (Ls := #[(.val (.int x0)), (.val (.int x1)), (.val (.int x2)), (.val (.int x3)), (.val (.int x4)), (.val (.int x5)), .unset, .unset, .unset, .unset, .unset, .unset, .unset, .unset, .unset, .unset, .unset, .unset, .unset, .unset, .unset, .unset, .unset, .unset, .unset, .unset, .unset, .unset, .unset, .unset, .unset]) (by decide +kernel) (fun m => by first | (simp [entryFrame, mkF, argsToLocals, Value.category, maxLocals]; done) | rfl) O ?_
  intro p e s m below meth cd C
  refine go_iconst C (pc' := 1) at_0 (z := (1 : Int32)) (by decide) rfl ?_
  refine go_iloadN C (pc' := 2) at_1 rfl rfl ?_
  refine go_bipush C (pc' := 4) at_2 (z := (7 : Int32)) (by decide) rfl ?_
  refine go_iand C (pc' := 5) at_4 rfl ?_
  refine go_iadd C (pc' := 6) at_5 rfl ?_
  obtain ⟨n, hn, hn8, en⟩ := own_span x0
  refine go_st (st' := [(.int n.toInt32)]) (by rw [en]) ?_
  refine go_istore C (pc' := 8) at_6 (Ls' := #[(.val (.int x0)), (.val (.int x1)), (.val (.int x2)), (.val (.int x3)), (.val (.int x4)), (.val (.int x5)), (.val (.int n.toInt32)), .unset, .unset, .unset, .unset, .unset, .unset, .unset, .unset, .unset, .unset, .unset, .unset, .unset, .unset, .unset, .unset, .unset, .unset, .unset, .unset, .unset, .unset, .unset, .unset]) rfl rfl ?_
  refine go_iloadN C (pc' := 9) at_8 rfl rfl ?_
  refine go_ldcInt C (pc' := 11) (wd_0 hw) at_9 rfl ?_
  refine go_iand C (pc' := 12) at_11 rfl ?_
  refine go_iload C (pc' := 14) at_12 rfl rfl ?_
  refine go_irem C (pc' := 15) at_14 (own_nz n hn hn8) rfl ?_
  refine go_i2l C (pc' := 16) at_15 rfl ?_
  have hc1 := own_remN (x1 &&& (2147483647 : Int32)) n (own_mask x1) hn hn8
  generalize (((x1 &&& (2147483647 : Int32)) % n.toInt32)).toInt64 = c1 at hc1 ⊢
  refine go_lstore C (pc' := 18) at_16 (Ls' := #[(.val (.int x0)), (.val (.int x1)), (.val (.int x2)), (.val (.int x3)), (.val (.int x4)), (.val (.int x5)), (.val (.int n.toInt32)), (.val (.long c1)), .second, .unset, .unset, .unset, .unset, .unset, .unset, .unset, .unset, .unset, .unset, .unset, .unset, .unset, .unset, .unset, .unset, .unset, .unset, .unset, .unset, .unset, .unset]) rfl rfl ?_
  refine go_iloadN C (pc' := 19) at_18 rfl rfl ?_
  refine go_bipush C (pc' := 21) at_19 (z := (16 : Int32)) (by decide) rfl ?_
  refine go_iushr C (pc' := 22) at_21 rfl ?_
  refine go_iload C (pc' := 24) at_22 rfl rfl ?_
  refine go_irem C (pc' := 25) at_24 (own_nz n hn hn8) rfl ?_
  refine go_i2l C (pc' := 26) at_25 rfl ?_
  have hc2 := own_remN ((x1).toUInt32 >>> ((16 : Int32) &&& 31).toUInt32).toInt32 n (by rw [c_iushr x1 16 16 (by decide) (by decide)]; omega) hn hn8
  generalize ((((x1).toUInt32 >>> ((16 : Int32) &&& 31).toUInt32).toInt32 % n.toInt32)).toInt64 = c2 at hc2 ⊢
  refine go_lstore C (pc' := 28) at_26 (Ls' := #[(.val (.int x0)), (.val (.int x1)), (.val (.int x2)), (.val (.int x3)), (.val (.int x4)), (.val (.int x5)), (.val (.int n.toInt32)), (.val (.long c1)), .second, (.val (.long c2)), .second, .unset, .unset, .unset, .unset, .unset, .unset, .unset, .unset, .unset, .unset, .unset, .unset, .unset, .unset, .unset, .unset, .unset, .unset, .unset, .unset]) rfl rfl ?_
  refine go_iloadN C (pc' := 29) at_28 rfl rfl ?_
  refine go_ldcInt C (pc' := 31) (wd_0 hw) at_29 rfl ?_
  refine go_iand C (pc' := 32) at_31 rfl ?_
  refine go_iload C (pc' := 34) at_32 rfl rfl ?_
  refine go_irem C (pc' := 35) at_34 (own_nz n hn hn8) rfl ?_
  refine go_i2l C (pc' := 36) at_35 rfl ?_
  have hd3 := own_remN (x2 &&& (2147483647 : Int32)) n (own_mask x2) hn hn8
  generalize (((x2 &&& (2147483647 : Int32)) % n.toInt32)).toInt64 = d3 at hd3 ⊢
  refine go_lstore C (pc' := 38) at_36 (Ls' := #[(.val (.int x0)), (.val (.int x1)), (.val (.int x2)), (.val (.int x3)), (.val (.int x4)), (.val (.int x5)), (.val (.int n.toInt32)), (.val (.long c1)), .second, (.val (.long c2)), .second, (.val (.long d3)), .second, .unset, .unset, .unset, .unset, .unset, .unset, .unset, .unset, .unset, .unset, .unset, .unset, .unset, .unset, .unset, .unset, .unset, .unset]) rfl rfl ?_
  refine go_new C (pc' := 41) (wd_1 hw) (wd_2 hw) (wd_3 hw) at_38 rfl (by decide) (by decide) ?_
  intro h1 b1 g1 n1 E1 A1 D1
  have F1_buckets : Fld Z h1 b1 "com/example/invariant/invariant/check/BucketQueue" "buckets" "[[I" .null := D1 (Or.inr (wd_13 hw)) (ty := (.array (.array .int))) (by decide)
  have F1_counts : Fld Z h1 b1 "com/example/invariant/invariant/check/BucketQueue" "counts" "[I" .null := D1 (Or.inr (wd_16 hw)) (ty := (.array .int)) (by decide)
  have F1_size : Fld Z h1 b1 "com/example/invariant/invariant/check/BucketQueue" "size" "J" (.long (0 : Int64)) := D1 (Or.inl (wd_24 hw)) (ty := .long) (by decide)
  have F1_lowest : Fld Z h1 b1 "com/example/invariant/invariant/check/BucketQueue" "lowest" "J" (.long (0 : Int64)) := D1 (Or.inl (wd_36 hw)) (ty := .long) (by decide)
  refine go_old fun O1 => ?_
  refine go_dup C (pc' := 42) at_41 rfl rfl ?_
  refine go_iload C (pc' := 44) at_42 rfl rfl ?_
  refine go_callC C (pc' := 47) (y' := (⟨"com/example/invariant/invariant/check/BucketQueue", "<init>", "(I)V"⟩ : MethodName)) (wd_4 hw) (wd_5 hw) rfl rfl (init_met l Z a0 hw _ _ O1 n hn hn8 b1 A1 F1_buckets F1_counts F1_lowest F1_size n1) (wd_6 hw) (wd_3 hw) (by decide) (by decide) (W := 1) (Nat.le_of_ble_eq_true rfl) (by decide) (by decide) (by decide) rfl (a := b1) (argsL := [(.int n.toInt32)]) (rest := [(.ref b1)]) pd_4 rfl rfl rfl at_44 rfl ?_
  rintro _ h2 ⟨rfl, hQ0⟩
  refine go_st (st' := [(.ref b1)]) rfl ?_
  refine go_old fun O2 => ?_
  refine go_astore C (pc' := 49) at_47 rfl (Ls' := #[(.val (.int x0)), (.val (.int x1)), (.val (.int x2)), (.val (.int x3)), (.val (.int x4)), (.val (.int x5)), (.val (.int n.toInt32)), (.val (.long c1)), .second, (.val (.long c2)), .second, (.val (.long d3)), .second, (.val (.ref b1)), .unset, .unset, .unset, .unset, .unset, .unset, .unset, .unset, .unset, .unset, .unset, .unset, .unset, .unset, .unset, .unset, .unset]) rfl rfl ?_
  refine go_aload C (pc' := 51) at_49 rfl rfl rfl ?_
  refine go_callV C (pc' := 54) (y' := (⟨"com/example/invariant/invariant/check/BucketQueue", "isEmpty", "()Z"⟩ : MethodName)) (wd_18 hw) (wd_19 hw) (wd_21 hw) (wd_20 hw) (empty_met l Z a0 hw _ _ O2 b1 n _ _ (0 : Int64) hQ0 (1 : Int32) (by decide)) (wd_22 hw) (wd_3 hw) (by decide) (by decide) (W := 0) (Nat.le_of_ble_eq_true rfl) (by decide) (by decide) (by decide) rfl (q_exa hQ0) (argsL := []) (rest := []) pd_0 rfl rfl rfl at_51 rfl ?_
  rintro _ _ ⟨rfl, rfl⟩
  refine go_st (st' := [(.int (1 : Int32))]) rfl ?_
  refine go_istore C (pc' := 56) at_54 (Ls' := #[(.val (.int x0)), (.val (.int x1)), (.val (.int x2)), (.val (.int x3)), (.val (.int x4)), (.val (.int x5)), (.val (.int n.toInt32)), (.val (.long c1)), .second, (.val (.long c2)), .second, (.val (.long d3)), .second, (.val (.ref b1)), (.val (.int (1 : Int32))), .unset, .unset, .unset, .unset, .unset, .unset, .unset, .unset, .unset, .unset, .unset, .unset, .unset, .unset, .unset, .unset]) rfl rfl ?_
  refine go_aload C (pc' := 58) at_56 rfl rfl rfl ?_
  refine go_iloadN C (pc' := 59) at_58 rfl rfl ?_
  refine go_lload C (pc' := 61) at_59 rfl rfl ?_
  refine go_callV C (pc' := 64) (y' := (⟨"com/example/invariant/invariant/check/BucketQueue", "push", "(IJ)V"⟩ : MethodName)) (wd_25 hw) (wd_26 hw) (wd_28 hw) (wd_27 hw) (push_met l Z a0 hw _ _ O2 b1 n hn hn8 _ _ _ hQ0 x3 c1 (c1.toInt.toNat % n) (Nat.mod_lt _ hn) hc1.1 rfl (by decide)) (wd_29 hw) (wd_3 hw) (by decide) (by decide) (W := 0) (Nat.le_of_ble_eq_true rfl) (by decide) (by decide) (by decide) rfl (q_exa hQ0) (argsL := [(.int x3), (.long c1)]) (rest := []) pd_1 rfl rfl rfl at_61 rfl ?_
  rintro _ h3 ⟨rfl, hQ1⟩
  refine go_st (st' := []) rfl ?_
  refine go_old fun O3 => ?_
  have hlen2 : (upd e0 (c1.toInt.toNat % n) (e0 (c1.toInt.toNat % n) ++ [x3]) (c2.toInt.toNat % n)).length < 16 := by
    by_cases e : c2.toInt.toNat % n = c1.toInt.toNat % n
    · rw [e, upd_same]; simp [e0]
    · rw [upd_ne _ _ e]; simp [e0]
  refine go_aload C (pc' := 66) at_64 rfl rfl rfl ?_
  refine go_iload C (pc' := 68) at_66 rfl rfl ?_
  refine go_lload C (pc' := 70) at_68 rfl rfl ?_
  refine go_callV C (pc' := 73) (y' := (⟨"com/example/invariant/invariant/check/BucketQueue", "push", "(IJ)V"⟩ : MethodName)) (wd_25 hw) (wd_26 hw) (wd_28 hw) (wd_27 hw) (push_met l Z a0 hw _ _ O3 b1 n hn hn8 _ _ _ hQ1 x4 c2 (c2.toInt.toNat % n) (Nat.mod_lt _ hn) hc2.1 rfl hlen2) (wd_29 hw) (wd_3 hw) (by decide) (by decide) (W := 0) (Nat.le_of_ble_eq_true rfl) (by decide) (by decide) (by decide) rfl (q_exa hQ1) (argsL := [(.int x4), (.long c2)]) (rest := []) pd_1 rfl rfl rfl at_70 rfl ?_
  rintro _ h4 ⟨rfl, hQ2⟩
  refine go_st (st' := []) rfl ?_
  refine go_old fun O4 => ?_
  replace hQ2 := hQ2.cast f1_push
  refine go_iload C (pc' := 75) at_73 rfl rfl ?_
  refine go_ifNo C (pc' := 78) at_75 (by decide) rfl ?_
  refine go_aload C (pc' := 80) at_78 rfl rfl rfl ?_
  refine go_callV C (pc' := 83) (y' := (⟨"com/example/invariant/invariant/check/BucketQueue", "isEmpty", "()Z"⟩ : MethodName)) (wd_18 hw) (wd_19 hw) (wd_21 hw) (wd_20 hw) (empty_met l Z a0 hw _ _ O4 b1 n _ _ ((0 : Int64) + 1 + 1) hQ2 (0 : Int32) (by decide)) (wd_22 hw) (wd_3 hw) (by decide) (by decide) (W := 0) (Nat.le_of_ble_eq_true rfl) (by decide) (by decide) (by decide) rfl (q_exa hQ2) (argsL := []) (rest := []) pd_0 rfl rfl rfl at_80 rfl ?_
  rintro _ _ ⟨rfl, rfl⟩
  refine go_st (st' := [(.int (0 : Int32))]) rfl ?_
  refine go_ifNo C (pc' := 86) at_83 (by decide) rfl ?_
  refine go_iconst C (pc' := 87) at_86 (z := (1 : Int32)) (by decide) rfl ?_
  refine go_goto C (pc' := 91) at_87 (by decide) (by decide) ?_
  refine go_istore C (pc' := 93) at_91 (Ls' := #[(.val (.int x0)), (.val (.int x1)), (.val (.int x2)), (.val (.int x3)), (.val (.int x4)), (.val (.int x5)), (.val (.int n.toInt32)), (.val (.long c1)), .second, (.val (.long c2)), .second, (.val (.long d3)), .second, (.val (.ref b1)), (.val (.int (1 : Int32))), .unset, .unset, .unset, .unset, .unset, .unset, .unset, .unset, .unset, .unset, .unset, .unset, .unset, .unset, .unset, .unset]) rfl rfl ?_
  refine go_aload C (pc' := 95) at_93 rfl rfl rfl ?_
  have z0 : (0 : Int64).toInt = 0 := by decide
  have ss : (0 : Int64) + 1 + 1 - 1 = 1 := by decide
  rcases Int.lt_trichotomy c1.toInt c2.toInt with hlt | heq | hgt
  · skip
    have hne : c1.toInt.toNat % n ≠ c2.toInt.toNat % n := own_modne (by omega) (by omega)
    refine go_callV C (pc' := 98) (y' := (⟨"com/example/invariant/invariant/check/BucketQueue", "pop", "()I"⟩ : MethodName)) (wd_30 hw) (wd_31 hw) (wd_33 hw) (wd_32 hw) (pop_met l Z a0 hw _ _ O4 b1 n hn hn8 _ 0 _ hQ2 c1 (by omega) (by omega) (by omega) (fun t h1 h2 => f1_none (own_modne (by omega) (by omega)) (own_modne (by omega) (by omega))) (c1.toInt.toNat % n) (Nat.mod_lt _ hn) rfl [] x3 (f1_fst hne)) (wd_34 hw) (wd_3 hw) (by decide) (by decide) (W := 0) (Nat.le_of_ble_eq_true rfl) (by decide) (by decide) (by decide) rfl (q_exa hQ2) (argsL := []) (rest := []) pd_2 rfl rfl rfl at_95 rfl ?_
    rintro _ h5 ⟨rfl, hQ3⟩
    refine go_st (st' := [(.int x3)]) rfl ?_
    refine go_old fun O5 => ?_
    replace hQ3 := hQ3.cast (f2_fst hne)
    rw [ss] at hQ3
    refine go_istore C (pc' := 100) at_98 (Ls' := #[(.val (.int x0)), (.val (.int x1)), (.val (.int x2)), (.val (.int x3)), (.val (.int x4)), (.val (.int x5)), (.val (.int n.toInt32)), (.val (.long c1)), .second, (.val (.long c2)), .second, (.val (.long d3)), .second, (.val (.ref b1)), (.val (.int (1 : Int32))), (.val (.int x3)), .unset, .unset, .unset, .unset, .unset, .unset, .unset, .unset, .unset, .unset, .unset, .unset, .unset, .unset, .unset]) rfl rfl ?_
    refine go_aload C (pc' := 102) at_100 rfl rfl rfl ?_
    refine go_callV C (pc' := 105) (y' := (⟨"com/example/invariant/invariant/check/BucketQueue", "lowest", "()J"⟩ : MethodName)) (wd_37 hw) (wd_38 hw) (wd_40 hw) (wd_39 hw) (lowest_met l Z a0 hw _ _ O5 b1 n _ _ _ hQ3) (wd_41 hw) (wd_3 hw) (by decide) (by decide) (W := 0) (Nat.le_of_ble_eq_true rfl) (by decide) (by decide) (by decide) rfl (q_exa hQ3) (argsL := []) (rest := []) pd_3 rfl rfl rfl at_102 rfl ?_
    rintro _ _ ⟨rfl, rfl⟩
    refine go_st (st' := [(.long c1)]) rfl ?_
    refine go_lstore C (pc' := 107) at_105 (Ls' := #[(.val (.int x0)), (.val (.int x1)), (.val (.int x2)), (.val (.int x3)), (.val (.int x4)), (.val (.int x5)), (.val (.int n.toInt32)), (.val (.long c1)), .second, (.val (.long c2)), .second, (.val (.long d3)), .second, (.val (.ref b1)), (.val (.int (1 : Int32))), (.val (.int x3)), (.val (.long c1)), .second, .unset, .unset, .unset, .unset, .unset, .unset, .unset, .unset, .unset, .unset, .unset, .unset, .unset]) rfl rfl ?_
    refine go_lload C (pc' := 109) at_107 rfl rfl ?_
    refine go_lload C (pc' := 111) at_109 rfl rfl ?_
    refine go_callS C (pc' := 114) (y' := (⟨"java/lang/Math", "min", "(JJ)J"⟩ : MethodName)) (wd_42 hw) (wd_43 hw) (min_met l Z a0 hw _ _ O5 c1 c2 c1 (if_neg (fun q => by have q2 := Int64.lt_iff_toInt_lt.mp q; omega))) (wd_45 hw) (wd_44 hw) (by decide) (by decide) (W := 0) (Nat.le_of_ble_eq_true rfl) (by decide) (by decide) (by decide) rfl (argsL := [(.long c1), (.long c2)]) (rest := []) pd_5 rfl rfl rfl at_111 rfl ?_
    rintro _ _ ⟨rfl, rfl⟩
    refine go_st (st' := [(.long c1)]) rfl ?_
    refine go_lstore C (pc' := 116) at_114 (Ls' := #[(.val (.int x0)), (.val (.int x1)), (.val (.int x2)), (.val (.int x3)), (.val (.int x4)), (.val (.int x5)), (.val (.int n.toInt32)), (.val (.long c1)), .second, (.val (.long c2)), .second, (.val (.long d3)), .second, (.val (.ref b1)), (.val (.int (1 : Int32))), (.val (.int x3)), (.val (.long c1)), .second, (.val (.long c1)), .second, .unset, .unset, .unset, .unset, .unset, .unset, .unset, .unset, .unset, .unset, .unset]) rfl rfl ?_
    refine go_iload C (pc' := 118) at_116 rfl rfl ?_
    refine go_ifNo C (pc' := 121) at_118 (by decide) rfl ?_
    refine go_lload C (pc' := 123) at_121 rfl rfl ?_
    refine go_lload C (pc' := 125) at_123 rfl rfl ?_
    refine go_lcmp C (pc' := 126) at_125 rfl ?_
    refine go_ifNo C (pc' := 129) at_126 ((if0 _ _).trans (teq ((lw_eq _ _).mpr rfl)).2) rfl ?_
    refine go_iconst C (pc' := 130) at_129 (z := (1 : Int32)) (by decide) rfl ?_
    refine go_goto C (pc' := 134) at_130 (by decide) (by decide) ?_
    refine go_istore C (pc' := 136) at_134 (Ls' := #[(.val (.int x0)), (.val (.int x1)), (.val (.int x2)), (.val (.int x3)), (.val (.int x4)), (.val (.int x5)), (.val (.int n.toInt32)), (.val (.long c1)), .second, (.val (.long c2)), .second, (.val (.long d3)), .second, (.val (.ref b1)), (.val (.int (1 : Int32))), (.val (.int x3)), (.val (.long c1)), .second, (.val (.long c1)), .second, .unset, .unset, .unset, .unset, .unset, .unset, .unset, .unset, .unset, .unset, .unset]) rfl rfl ?_
    refine go_lload C (pc' := 138) at_136 rfl rfl ?_
    refine go_lload C (pc' := 140) at_138 rfl rfl ?_
    refine go_lcmp C (pc' := 141) at_140 rfl ?_
    refine go_ifNo C (pc' := 144) at_141 ((if0 _ _).trans (tlt ((lw_lt _ _).mpr (Int64.lt_iff_toInt_lt.mpr hlt))).2.1) rfl ?_
    refine go_iload C (pc' := 146) at_144 rfl rfl ?_
    refine go_ifNo C (pc' := 149) at_146 (by decide) rfl ?_
    refine go_iload C (pc' := 151) at_149 rfl rfl ?_
    refine go_iloadN C (pc' := 152) at_151 rfl rfl ?_
    refine go_icmpNo C (pc' := 155) at_152 (teq rfl).2 rfl ?_
    refine go_iconst C (pc' := 156) at_155 (z := (1 : Int32)) (by decide) rfl ?_
    refine go_goto C (pc' := 160) at_156 (by decide) (by decide) ?_
    refine go_istore C (pc' := 162) at_160 (Ls' := #[(.val (.int x0)), (.val (.int x1)), (.val (.int x2)), (.val (.int x3)), (.val (.int x4)), (.val (.int x5)), (.val (.int n.toInt32)), (.val (.long c1)), .second, (.val (.long c2)), .second, (.val (.long d3)), .second, (.val (.ref b1)), (.val (.int (1 : Int32))), (.val (.int x3)), (.val (.long c1)), .second, (.val (.long c1)), .second, .unset, .unset, .unset, .unset, .unset, .unset, .unset, .unset, .unset, .unset, .unset]) rfl rfl ?_
    refine go_iload C (pc' := 164) at_162 rfl rfl ?_
    refine go_istore C (pc' := 166) at_164 (Ls' := #[(.val (.int x0)), (.val (.int x1)), (.val (.int x2)), (.val (.int x3)), (.val (.int x4)), (.val (.int x5)), (.val (.int n.toInt32)), (.val (.long c1)), .second, (.val (.long c2)), .second, (.val (.long d3)), .second, (.val (.ref b1)), (.val (.int (1 : Int32))), (.val (.int x3)), (.val (.long c1)), .second, (.val (.long c1)), .second, (.val (.int x4)), .unset, .unset, .unset, .unset, .unset, .unset, .unset, .unset, .unset, .unset]) rfl rfl ?_
    refine go_lload C (pc' := 168) at_166 rfl rfl ?_
    refine go_lstore C (pc' := 170) at_168 (Ls' := #[(.val (.int x0)), (.val (.int x1)), (.val (.int x2)), (.val (.int x3)), (.val (.int x4)), (.val (.int x5)), (.val (.int n.toInt32)), (.val (.long c1)), .second, (.val (.long c2)), .second, (.val (.long d3)), .second, (.val (.ref b1)), (.val (.int (1 : Int32))), (.val (.int x3)), (.val (.long c1)), .second, (.val (.long c1)), .second, (.val (.int x4)), (.val (.long c2)), .second, .unset, .unset, .unset, .unset, .unset, .unset, .unset, .unset]) rfl rfl ?_
    refine go_goto C (pc' := 253) at_170 (by decide) (by decide) ?_
    exact law_tail l Z a0 hw x0 x1 x2 x3 x4 x5 n hn hn8 c1 c2 d3 c1 c2 x3 x4 b1 _ hd3.1 hd3.2 (by omega) (by omega) (by omega) (by omega) O5 hQ3 p e s m below meth cd C _ _ (by decide) (by decide)
  · skip
    obtain rfl : c1 = c2 := Int64.toInt_inj.mp heq
    refine go_callV C (pc' := 98) (y' := (⟨"com/example/invariant/invariant/check/BucketQueue", "pop", "()I"⟩ : MethodName)) (wd_30 hw) (wd_31 hw) (wd_33 hw) (wd_32 hw) (pop_met l Z a0 hw _ _ O4 b1 n hn hn8 _ 0 _ hQ2 c1 (by omega) (by omega) (by omega) (fun t h1 h2 => f1_none (own_modne (by omega) (by omega)) (own_modne (by omega) (by omega))) (c1.toInt.toNat % n) (Nat.mod_lt _ hn) rfl [x3] x4 f1_both) (wd_34 hw) (wd_3 hw) (by decide) (by decide) (W := 0) (Nat.le_of_ble_eq_true rfl) (by decide) (by decide) (by decide) rfl (q_exa hQ2) (argsL := []) (rest := []) pd_2 rfl rfl rfl at_95 rfl ?_
    rintro _ h6 ⟨rfl, hQ3⟩
    refine go_st (st' := [(.int x4)]) rfl ?_
    refine go_old fun O6 => ?_
    replace hQ3 := hQ3.cast f2_both
    rw [ss] at hQ3
    refine go_istore C (pc' := 100) at_98 (Ls' := #[(.val (.int x0)), (.val (.int x1)), (.val (.int x2)), (.val (.int x3)), (.val (.int x4)), (.val (.int x5)), (.val (.int n.toInt32)), (.val (.long c1)), .second, (.val (.long c1)), .second, (.val (.long d3)), .second, (.val (.ref b1)), (.val (.int (1 : Int32))), (.val (.int x4)), .unset, .unset, .unset, .unset, .unset, .unset, .unset, .unset, .unset, .unset, .unset, .unset, .unset, .unset, .unset]) rfl rfl ?_
    refine go_aload C (pc' := 102) at_100 rfl rfl rfl ?_
    refine go_callV C (pc' := 105) (y' := (⟨"com/example/invariant/invariant/check/BucketQueue", "lowest", "()J"⟩ : MethodName)) (wd_37 hw) (wd_38 hw) (wd_40 hw) (wd_39 hw) (lowest_met l Z a0 hw _ _ O6 b1 n _ _ _ hQ3) (wd_41 hw) (wd_3 hw) (by decide) (by decide) (W := 0) (Nat.le_of_ble_eq_true rfl) (by decide) (by decide) (by decide) rfl (q_exa hQ3) (argsL := []) (rest := []) pd_3 rfl rfl rfl at_102 rfl ?_
    rintro _ _ ⟨rfl, rfl⟩
    refine go_st (st' := [(.long c1)]) rfl ?_
    refine go_lstore C (pc' := 107) at_105 (Ls' := #[(.val (.int x0)), (.val (.int x1)), (.val (.int x2)), (.val (.int x3)), (.val (.int x4)), (.val (.int x5)), (.val (.int n.toInt32)), (.val (.long c1)), .second, (.val (.long c1)), .second, (.val (.long d3)), .second, (.val (.ref b1)), (.val (.int (1 : Int32))), (.val (.int x4)), (.val (.long c1)), .second, .unset, .unset, .unset, .unset, .unset, .unset, .unset, .unset, .unset, .unset, .unset, .unset, .unset]) rfl rfl ?_
    refine go_lload C (pc' := 109) at_107 rfl rfl ?_
    refine go_lload C (pc' := 111) at_109 rfl rfl ?_
    refine go_callS C (pc' := 114) (y' := (⟨"java/lang/Math", "min", "(JJ)J"⟩ : MethodName)) (wd_42 hw) (wd_43 hw) (min_met l Z a0 hw _ _ O6 c1 c1 c1 (ite_self _)) (wd_45 hw) (wd_44 hw) (by decide) (by decide) (W := 0) (Nat.le_of_ble_eq_true rfl) (by decide) (by decide) (by decide) rfl (argsL := [(.long c1), (.long c1)]) (rest := []) pd_5 rfl rfl rfl at_111 rfl ?_
    rintro _ _ ⟨rfl, rfl⟩
    refine go_st (st' := [(.long c1)]) rfl ?_
    refine go_lstore C (pc' := 116) at_114 (Ls' := #[(.val (.int x0)), (.val (.int x1)), (.val (.int x2)), (.val (.int x3)), (.val (.int x4)), (.val (.int x5)), (.val (.int n.toInt32)), (.val (.long c1)), .second, (.val (.long c1)), .second, (.val (.long d3)), .second, (.val (.ref b1)), (.val (.int (1 : Int32))), (.val (.int x4)), (.val (.long c1)), .second, (.val (.long c1)), .second, .unset, .unset, .unset, .unset, .unset, .unset, .unset, .unset, .unset, .unset, .unset]) rfl rfl ?_
    refine go_iload C (pc' := 118) at_116 rfl rfl ?_
    refine go_ifNo C (pc' := 121) at_118 (by decide) rfl ?_
    refine go_lload C (pc' := 123) at_121 rfl rfl ?_
    refine go_lload C (pc' := 125) at_123 rfl rfl ?_
    refine go_lcmp C (pc' := 126) at_125 rfl ?_
    refine go_ifNo C (pc' := 129) at_126 ((if0 _ _).trans (teq ((lw_eq _ _).mpr rfl)).2) rfl ?_
    refine go_iconst C (pc' := 130) at_129 (z := (1 : Int32)) (by decide) rfl ?_
    refine go_goto C (pc' := 134) at_130 (by decide) (by decide) ?_
    refine go_istore C (pc' := 136) at_134 (Ls' := #[(.val (.int x0)), (.val (.int x1)), (.val (.int x2)), (.val (.int x3)), (.val (.int x4)), (.val (.int x5)), (.val (.int n.toInt32)), (.val (.long c1)), .second, (.val (.long c1)), .second, (.val (.long d3)), .second, (.val (.ref b1)), (.val (.int (1 : Int32))), (.val (.int x4)), (.val (.long c1)), .second, (.val (.long c1)), .second, .unset, .unset, .unset, .unset, .unset, .unset, .unset, .unset, .unset, .unset, .unset]) rfl rfl ?_
    refine go_lload C (pc' := 138) at_136 rfl rfl ?_
    refine go_lload C (pc' := 140) at_138 rfl rfl ?_
    refine go_lcmp C (pc' := 141) at_140 rfl ?_
    refine go_ifYes C (pc' := 173) at_141 ((if0 _ _).trans (flt (fun q => by have q2 := Int64.lt_iff_toInt_lt.mp ((lw_lt _ _).mp q); omega)).2.1) (by decide) (by decide) ?_
    refine go_lload C (pc' := 175) at_173 rfl rfl ?_
    refine go_lload C (pc' := 177) at_175 rfl rfl ?_
    refine go_lcmp C (pc' := 178) at_177 rfl ?_
    refine go_ifYes C (pc' := 210) at_178 ((if0 _ _).trans (flt (fun q => by have q2 := Int64.lt_iff_toInt_lt.mp ((lw_lt _ _).mp q); omega)).2.1) (by decide) (by decide) ?_
    refine go_iload C (pc' := 212) at_210 rfl rfl ?_
    refine go_ifNo C (pc' := 215) at_212 (by decide) rfl ?_
    refine go_iload C (pc' := 217) at_215 rfl rfl ?_
    refine go_iloadN C (pc' := 218) at_217 rfl rfl ?_
    by_cases hc7 : x4 = x3
    · refine go_icmpYes C (pc' := 228) at_218 (teq hc7).1 (by decide) (by decide) ?_
      refine go_iconst C (pc' := 229) at_228 (z := (1 : Int32)) (by decide) rfl ?_
      refine go_goto C (pc' := 233) at_229 (by decide) (by decide) ?_
      refine go_istore C (pc' := 235) at_233 (Ls' := #[(.val (.int x0)), (.val (.int x1)), (.val (.int x2)), (.val (.int x3)), (.val (.int x4)), (.val (.int x5)), (.val (.int n.toInt32)), (.val (.long c1)), .second, (.val (.long c1)), .second, (.val (.long d3)), .second, (.val (.ref b1)), (.val (.int (1 : Int32))), (.val (.int x4)), (.val (.long c1)), .second, (.val (.long c1)), .second, .unset, .unset, .unset, .unset, .unset, .unset, .unset, .unset, .unset, .unset, .unset]) rfl rfl ?_
      refine go_iload C (pc' := 237) at_235 rfl rfl ?_
      refine go_iloadN C (pc' := 238) at_237 rfl rfl ?_
      refine go_icmpNo C (pc' := 241) at_238 (teq hc7).2 rfl ?_
      obtain rfl : x3 = x4 := hc7.symm
      refine go_iload C (pc' := 243) at_241 rfl rfl ?_
      refine go_goto C (pc' := 247) at_243 (by decide) (by decide) ?_
      refine go_istore C (pc' := 249) at_247 (Ls' := #[(.val (.int x0)), (.val (.int x1)), (.val (.int x2)), (.val (.int x3)), (.val (.int x3)), (.val (.int x5)), (.val (.int n.toInt32)), (.val (.long c1)), .second, (.val (.long c1)), .second, (.val (.long d3)), .second, (.val (.ref b1)), (.val (.int (1 : Int32))), (.val (.int x3)), (.val (.long c1)), .second, (.val (.long c1)), .second, (.val (.int x3)), .unset, .unset, .unset, .unset, .unset, .unset, .unset, .unset, .unset, .unset]) rfl rfl ?_
      refine go_lload C (pc' := 251) at_249 rfl rfl ?_
      refine go_lstore C (pc' := 253) at_251 (Ls' := #[(.val (.int x0)), (.val (.int x1)), (.val (.int x2)), (.val (.int x3)), (.val (.int x3)), (.val (.int x5)), (.val (.int n.toInt32)), (.val (.long c1)), .second, (.val (.long c1)), .second, (.val (.long d3)), .second, (.val (.ref b1)), (.val (.int (1 : Int32))), (.val (.int x3)), (.val (.long c1)), .second, (.val (.long c1)), .second, (.val (.int x3)), (.val (.long c1)), .second, .unset, .unset, .unset, .unset, .unset, .unset, .unset, .unset]) rfl rfl ?_
      exact law_tail l Z a0 hw x0 x1 x2 x3 x3 x5 n hn hn8 c1 c1 d3 c1 c1 x3 x3 b1 _ hd3.1 hd3.2 (by omega) (by omega) (by omega) (by omega) O6 hQ3 p e s m below meth cd C _ _ (by decide) (by decide)
    · refine go_icmpNo C (pc' := 221) at_218 (feq hc7).1 rfl ?_
      refine go_iload C (pc' := 223) at_221 rfl rfl ?_
      refine go_iload C (pc' := 225) at_223 rfl rfl ?_
      refine go_icmpNo C (pc' := 228) at_225 (teq rfl).2 rfl ?_
      refine go_iconst C (pc' := 229) at_228 (z := (1 : Int32)) (by decide) rfl ?_
      refine go_goto C (pc' := 233) at_229 (by decide) (by decide) ?_
      refine go_istore C (pc' := 235) at_233 (Ls' := #[(.val (.int x0)), (.val (.int x1)), (.val (.int x2)), (.val (.int x3)), (.val (.int x4)), (.val (.int x5)), (.val (.int n.toInt32)), (.val (.long c1)), .second, (.val (.long c1)), .second, (.val (.long d3)), .second, (.val (.ref b1)), (.val (.int (1 : Int32))), (.val (.int x4)), (.val (.long c1)), .second, (.val (.long c1)), .second, .unset, .unset, .unset, .unset, .unset, .unset, .unset, .unset, .unset, .unset, .unset]) rfl rfl ?_
      refine go_iload C (pc' := 237) at_235 rfl rfl ?_
      refine go_iloadN C (pc' := 238) at_237 rfl rfl ?_
      refine go_icmpYes C (pc' := 246) at_238 (feq hc7).2 (by decide) (by decide) ?_
      refine go_iloadN C (pc' := 247) at_246 rfl rfl ?_
      refine go_istore C (pc' := 249) at_247 (Ls' := #[(.val (.int x0)), (.val (.int x1)), (.val (.int x2)), (.val (.int x3)), (.val (.int x4)), (.val (.int x5)), (.val (.int n.toInt32)), (.val (.long c1)), .second, (.val (.long c1)), .second, (.val (.long d3)), .second, (.val (.ref b1)), (.val (.int (1 : Int32))), (.val (.int x4)), (.val (.long c1)), .second, (.val (.long c1)), .second, (.val (.int x3)), .unset, .unset, .unset, .unset, .unset, .unset, .unset, .unset, .unset, .unset]) rfl rfl ?_
      refine go_lload C (pc' := 251) at_249 rfl rfl ?_
      refine go_lstore C (pc' := 253) at_251 (Ls' := #[(.val (.int x0)), (.val (.int x1)), (.val (.int x2)), (.val (.int x3)), (.val (.int x4)), (.val (.int x5)), (.val (.int n.toInt32)), (.val (.long c1)), .second, (.val (.long c1)), .second, (.val (.long d3)), .second, (.val (.ref b1)), (.val (.int (1 : Int32))), (.val (.int x4)), (.val (.long c1)), .second, (.val (.long c1)), .second, (.val (.int x3)), (.val (.long c1)), .second, .unset, .unset, .unset, .unset, .unset, .unset, .unset, .unset]) rfl rfl ?_
      exact law_tail l Z a0 hw x0 x1 x2 x3 x4 x5 n hn hn8 c1 c1 d3 c1 c1 x4 x3 b1 _ hd3.1 hd3.2 (by omega) (by omega) (by omega) (by omega) O6 hQ3 p e s m below meth cd C _ _ (by decide) (by decide)
  · skip
    have hne : c1.toInt.toNat % n ≠ c2.toInt.toNat % n := Ne.symm (own_modne (by omega) (by omega))
    refine go_callV C (pc' := 98) (y' := (⟨"com/example/invariant/invariant/check/BucketQueue", "pop", "()I"⟩ : MethodName)) (wd_30 hw) (wd_31 hw) (wd_33 hw) (wd_32 hw) (pop_met l Z a0 hw _ _ O4 b1 n hn hn8 _ 0 _ hQ2 c2 (by omega) (by omega) (by omega) (fun t h1 h2 => f1_none (own_modne (by omega) (by omega)) (own_modne (by omega) (by omega))) (c2.toInt.toNat % n) (Nat.mod_lt _ hn) rfl [] x4 (f1_snd hne)) (wd_34 hw) (wd_3 hw) (by decide) (by decide) (W := 0) (Nat.le_of_ble_eq_true rfl) (by decide) (by decide) (by decide) rfl (q_exa hQ2) (argsL := []) (rest := []) pd_2 rfl rfl rfl at_95 rfl ?_
    rintro _ h8 ⟨rfl, hQ3⟩
    refine go_st (st' := [(.int x4)]) rfl ?_
    refine go_old fun O8 => ?_
    replace hQ3 := hQ3.cast (f2_snd hne)
    rw [ss] at hQ3
    refine go_istore C (pc' := 100) at_98 (Ls' := #[(.val (.int x0)), (.val (.int x1)), (.val (.int x2)), (.val (.int x3)), (.val (.int x4)), (.val (.int x5)), (.val (.int n.toInt32)), (.val (.long c1)), .second, (.val (.long c2)), .second, (.val (.long d3)), .second, (.val (.ref b1)), (.val (.int (1 : Int32))), (.val (.int x4)), .unset, .unset, .unset, .unset, .unset, .unset, .unset, .unset, .unset, .unset, .unset, .unset, .unset, .unset, .unset]) rfl rfl ?_
    refine go_aload C (pc' := 102) at_100 rfl rfl rfl ?_
    refine go_callV C (pc' := 105) (y' := (⟨"com/example/invariant/invariant/check/BucketQueue", "lowest", "()J"⟩ : MethodName)) (wd_37 hw) (wd_38 hw) (wd_40 hw) (wd_39 hw) (lowest_met l Z a0 hw _ _ O8 b1 n _ _ _ hQ3) (wd_41 hw) (wd_3 hw) (by decide) (by decide) (W := 0) (Nat.le_of_ble_eq_true rfl) (by decide) (by decide) (by decide) rfl (q_exa hQ3) (argsL := []) (rest := []) pd_3 rfl rfl rfl at_102 rfl ?_
    rintro _ _ ⟨rfl, rfl⟩
    refine go_st (st' := [(.long c2)]) rfl ?_
    refine go_lstore C (pc' := 107) at_105 (Ls' := #[(.val (.int x0)), (.val (.int x1)), (.val (.int x2)), (.val (.int x3)), (.val (.int x4)), (.val (.int x5)), (.val (.int n.toInt32)), (.val (.long c1)), .second, (.val (.long c2)), .second, (.val (.long d3)), .second, (.val (.ref b1)), (.val (.int (1 : Int32))), (.val (.int x4)), (.val (.long c2)), .second, .unset, .unset, .unset, .unset, .unset, .unset, .unset, .unset, .unset, .unset, .unset, .unset, .unset]) rfl rfl ?_
    refine go_lload C (pc' := 109) at_107 rfl rfl ?_
    refine go_lload C (pc' := 111) at_109 rfl rfl ?_
    refine go_callS C (pc' := 114) (y' := (⟨"java/lang/Math", "min", "(JJ)J"⟩ : MethodName)) (wd_42 hw) (wd_43 hw) (min_met l Z a0 hw _ _ O8 c1 c2 c2 (if_pos (Int64.lt_iff_toInt_lt.mpr hgt))) (wd_45 hw) (wd_44 hw) (by decide) (by decide) (W := 0) (Nat.le_of_ble_eq_true rfl) (by decide) (by decide) (by decide) rfl (argsL := [(.long c1), (.long c2)]) (rest := []) pd_5 rfl rfl rfl at_111 rfl ?_
    rintro _ _ ⟨rfl, rfl⟩
    refine go_st (st' := [(.long c2)]) rfl ?_
    refine go_lstore C (pc' := 116) at_114 (Ls' := #[(.val (.int x0)), (.val (.int x1)), (.val (.int x2)), (.val (.int x3)), (.val (.int x4)), (.val (.int x5)), (.val (.int n.toInt32)), (.val (.long c1)), .second, (.val (.long c2)), .second, (.val (.long d3)), .second, (.val (.ref b1)), (.val (.int (1 : Int32))), (.val (.int x4)), (.val (.long c2)), .second, (.val (.long c2)), .second, .unset, .unset, .unset, .unset, .unset, .unset, .unset, .unset, .unset, .unset, .unset]) rfl rfl ?_
    refine go_iload C (pc' := 118) at_116 rfl rfl ?_
    refine go_ifNo C (pc' := 121) at_118 (by decide) rfl ?_
    refine go_lload C (pc' := 123) at_121 rfl rfl ?_
    refine go_lload C (pc' := 125) at_123 rfl rfl ?_
    refine go_lcmp C (pc' := 126) at_125 rfl ?_
    refine go_ifNo C (pc' := 129) at_126 ((if0 _ _).trans (teq ((lw_eq _ _).mpr rfl)).2) rfl ?_
    refine go_iconst C (pc' := 130) at_129 (z := (1 : Int32)) (by decide) rfl ?_
    refine go_goto C (pc' := 134) at_130 (by decide) (by decide) ?_
    refine go_istore C (pc' := 136) at_134 (Ls' := #[(.val (.int x0)), (.val (.int x1)), (.val (.int x2)), (.val (.int x3)), (.val (.int x4)), (.val (.int x5)), (.val (.int n.toInt32)), (.val (.long c1)), .second, (.val (.long c2)), .second, (.val (.long d3)), .second, (.val (.ref b1)), (.val (.int (1 : Int32))), (.val (.int x4)), (.val (.long c2)), .second, (.val (.long c2)), .second, .unset, .unset, .unset, .unset, .unset, .unset, .unset, .unset, .unset, .unset, .unset]) rfl rfl ?_
    refine go_lload C (pc' := 138) at_136 rfl rfl ?_
    refine go_lload C (pc' := 140) at_138 rfl rfl ?_
    refine go_lcmp C (pc' := 141) at_140 rfl ?_
    refine go_ifYes C (pc' := 173) at_141 ((if0 _ _).trans (flt (fun q => by have q2 := Int64.lt_iff_toInt_lt.mp ((lw_lt _ _).mp q); omega)).2.1) (by decide) (by decide) ?_
    refine go_lload C (pc' := 175) at_173 rfl rfl ?_
    refine go_lload C (pc' := 177) at_175 rfl rfl ?_
    refine go_lcmp C (pc' := 178) at_177 rfl ?_
    refine go_ifNo C (pc' := 181) at_178 ((if0 _ _).trans (tlt ((lw_lt _ _).mpr (Int64.lt_iff_toInt_lt.mpr hgt))).2.1) rfl ?_
    refine go_iload C (pc' := 183) at_181 rfl rfl ?_
    refine go_ifNo C (pc' := 186) at_183 (by decide) rfl ?_
    refine go_iload C (pc' := 188) at_186 rfl rfl ?_
    refine go_iload C (pc' := 190) at_188 rfl rfl ?_
    refine go_icmpNo C (pc' := 193) at_190 (teq rfl).2 rfl ?_
    refine go_iconst C (pc' := 194) at_193 (z := (1 : Int32)) (by decide) rfl ?_
    refine go_goto C (pc' := 198) at_194 (by decide) (by decide) ?_
    refine go_istore C (pc' := 200) at_198 (Ls' := #[(.val (.int x0)), (.val (.int x1)), (.val (.int x2)), (.val (.int x3)), (.val (.int x4)), (.val (.int x5)), (.val (.int n.toInt32)), (.val (.long c1)), .second, (.val (.long c2)), .second, (.val (.long d3)), .second, (.val (.ref b1)), (.val (.int (1 : Int32))), (.val (.int x4)), (.val (.long c2)), .second, (.val (.long c2)), .second, .unset, .unset, .unset, .unset, .unset, .unset, .unset, .unset, .unset, .unset, .unset]) rfl rfl ?_
    refine go_iloadN C (pc' := 201) at_200 rfl rfl ?_
    refine go_istore C (pc' := 203) at_201 (Ls' := #[(.val (.int x0)), (.val (.int x1)), (.val (.int x2)), (.val (.int x3)), (.val (.int x4)), (.val (.int x5)), (.val (.int n.toInt32)), (.val (.long c1)), .second, (.val (.long c2)), .second, (.val (.long d3)), .second, (.val (.ref b1)), (.val (.int (1 : Int32))), (.val (.int x4)), (.val (.long c2)), .second, (.val (.long c2)), .second, (.val (.int x3)), .unset, .unset, .unset, .unset, .unset, .unset, .unset, .unset, .unset, .unset]) rfl rfl ?_
    refine go_lload C (pc' := 205) at_203 rfl rfl ?_
    refine go_lstore C (pc' := 207) at_205 (Ls' := #[(.val (.int x0)), (.val (.int x1)), (.val (.int x2)), (.val (.int x3)), (.val (.int x4)), (.val (.int x5)), (.val (.int n.toInt32)), (.val (.long c1)), .second, (.val (.long c2)), .second, (.val (.long d3)), .second, (.val (.ref b1)), (.val (.int (1 : Int32))), (.val (.int x4)), (.val (.long c2)), .second, (.val (.long c2)), .second, (.val (.int x3)), (.val (.long c1)), .second, .unset, .unset, .unset, .unset, .unset, .unset, .unset, .unset]) rfl rfl ?_
    refine go_goto C (pc' := 253) at_207 (by decide) (by decide) ?_
    exact law_tail l Z a0 hw x0 x1 x2 x3 x4 x5 n hn hn8 c1 c2 d3 c2 c1 x4 x3 b1 _ hd3.1 hd3.2 (by omega) (by omega) (by omega) (by omega) O8 hQ3 p e s m below meth cd C _ _ (by decide) (by decide)
set_option maxRecDepth 65536 in
set_option maxHeartbeats 40000000 in
theorem comes_1 {Post : Tables → Env → Array Value → State → Outcome → State → Prop} (hpost : ∀ tb e args s v u, (limb_1_1.after args s (.returned v) u = true ∧ limb_1_2.after args s (.returned v) u = true ∧ True) → FrameEnd s (.returned v) u (Jvm.fieldLocs frame_1_writes args s ++ Jvm.arrayLocs frame_1_arrays args s ++ Jvm.staticLocs frame_1_statics s) 32 384 → Post tb e args s (.returned v) u) :
    ArmFor flags0 classFile x code maxLocals ret World_1 tables_1 room_1 Calls_1 rest_1 Pre_1 Post := by
  intro l hfl _ _ p e ha hc hk s m args below hf hA hF happ hP
  obtain ⟨hcalls, hrest, hpre⟩ := hP
  obtain ⟨-, -, -, hnamed, -, -, -, hat⟩ := (Spec.applies_iff hf).mp happ
  obtain ⟨hg, hn⟩ := and_e (Cond.before_iff.mp (show (Jvm.Cond.and given_1 narrow_1).before args s = true from hpre))
  obtain ⟨hcount, g0⟩ := and_e hg
  obtain ⟨w0, w1, w2, w3, w4, w5, rfl⟩ : ∃ w0 w1 w2 w3 w4 w5 : Value, args = #[w0, w1, w2, w3, w4, w5] := by
    have hs : args.size = 6 := by simpa [Cond.value, given_1] using hcount
    obtain ⟨L⟩ := args
    match L, hs with
    | [w0, w1, w2, w3, w4, w5], _ => exact ⟨w0, w1, w2, w3, w4, w5, rfl⟩
  have hw := fun d (hd : d ∈ tables_1) => atoms_spec (ws := Jvm.Cond.code x code maxLocals ret :: tables_1) hat d (List.mem_cons_of_mem _ hd)
  have hfit : Fit s := fun {y c} hc i hi => by
    obtain ⟨ha, rfl⟩ := Array.getElem?_eq_some_iff.mp hc
    have q := List.all_eq_true.mp ((Array.all_eq_true_iff_forall_mem.mp hF) _ (Array.getElem_mem ha)) i (List.mem_range.mpr hi)
    simpa [Array.getElem?_eq_getElem hi] using q
  obtain ⟨u0, g1⟩ := and_e g0
  obtain ⟨i0, e0⟩ := is_v u0
  obtain rfl : w0 = (.int i0) := Option.some.inj e0
  obtain ⟨u1, g2⟩ := and_e g1
  obtain ⟨i1, e1⟩ := is_v u1
  obtain rfl : w1 = (.int i1) := Option.some.inj e1
  obtain ⟨u2, g3⟩ := and_e g2
  obtain ⟨i2, e2⟩ := is_v u2
  obtain rfl : w2 = (.int i2) := Option.some.inj e2
  obtain ⟨u3, g4⟩ := and_e g3
  obtain ⟨i3, e3⟩ := is_v u3
  obtain rfl : w3 = (.int i3) := Option.some.inj e3
  obtain ⟨u4, g5⟩ := and_e g4
  obtain ⟨i4, e4⟩ := is_v u4
  obtain rfl : w4 = (.int i4) := Option.some.inj e4
  obtain ⟨i5, e5⟩ := is_v g5
  obtain rfl : w5 = (.int i5) := Option.some.inj e5
  obtain ⟨n, o, h1, h2, h3, _, L, rfl, ⟨N, -, rfl⟩, hq⟩ := law_met l s _ hw i0 i1 i2 i3 i4 i5   p e ha hc hk s m _ below hf ((Spec.applies_iff_loose hf).mp happ).1 ⟨rfl, State.Warmed39.refl s, rfl⟩ trivial
  exact ⟨n, _, h1, h2, h3, hpost _ _ _ _ _ _ ⟨Cond.after_iff.mpr rfl, Cond.after_iff.mpr (eq_i res_at (Term.int_eval (1)) rfl), trivial⟩ ⟨hq.1, hq.2.1, (hq.2.2.sift fun y hy => Or.inr (N y hy)).mono (by decide) (by decide)⟩⟩
theorem main_1_1 : Claimed_1_1 := comes_1 fun _ _ _ _ _ _ h hF => ⟨h.1, hF⟩
theorem main_1_2 : Claimed_1_2 := comes_1 fun _ _ _ _ _ _ h hF => ⟨h.2.1, hF⟩
end Jvm.Pilot.@@N@@
namespace Jvm.Pilot.@@N@@
open Jvm Jvm.ClassFile Sem Op Lib Jvm.Free Jvm.Stand Jvm.Pilot.@@N@@.Jvm.D
/-! MADE BY PROGRAM (witnessworld.py) out of the Statement's table words and the real class files: 10 classes; the members and pool entries that the words name. The judged class is class 1, her method 1. -/
namespace start1
open Jvm.ClassFile
def u (s : String) : CpInfo := .utf8 (stringToUtf16 s)
/-- a pool by its gaps: so many unusable entries, then the entry; so many at the end -/
def gap : Nat → List CpInfo → List CpInfo
  | 0, r => r
  | n + 1, r => .unusable :: gap n r
def poolList (es : List (Nat × CpInfo)) (last : Nat) : List CpInfo := es.foldr (fun e r => gap e.1 (e.2 :: r)) (gap last [])
def pool (es : List (Nat × CpInfo)) (last : Nat) : Array CpInfo := ⟨poolList es last⟩
def fileOf (pool : Array CpInfo) (this : Nat) (attrs : Array Attribute := #[]) (ms : Array MethodInfo := #[]) (fl : Nat := 33) (sup : Nat := 0) (ifs : Array Nat := #[]) (fds : Array FieldInfo := #[]) : ClassFile where
  minorVersion := 0
  majorVersion := 65
  constantPool := pool
  accessFlags := fl
  thisClass := this
  superClass := sup
  interfaces := ifs
  fields := fds
  methods := ms
  attributes := attrs
def plain (name : String) (sup : Option ClassId) : Class where
  name := name
  kind := .ordinary
  loader := none
  accessFlags := 33
  super := sup
  interfaces := #[]
  cf := none
  fields := #[]
  methods := #[]
  instanceTypes := #[]
  staticTypes := #[]
  resolved := #[]
  callSites := []
  init := .initialized
  statics := none
  mirror := none

def pool0 : Array CpInfo := pool [(5, u "<init>"), (0, u "()V"), (1, .class_ 10), (1, u "java/lang/Object")] 113

def k0c0 : Code := { maxStack := 0, maxLocals := 1, code := object_method_1_code, exceptionTable := #[], attributes := #[] }
def k0m0 : Method := { name := "<init>", desc := "()V", sig := { parameters := [], returnType := none }, accessFlags := 1, code := some k0c0 }
/-- java/lang/Object -/
def k0 : Class := { plain "java/lang/Object" none with
  accessFlags := 33
  interfaces := #[]
  cf := some (fileOf pool0 8 #[] #[{ accessFlags := 1, nameIndex := 5, descriptorIndex := 6, attributes := #[] }] 33 0 #[] #[])
  fields := #[]
  methods := #[k0m0]
  instanceTypes := #[]
  staticTypes := #[]
  resolved := Array.replicate 124 none
  statics := none }

def pool1 : Array CpInfo := pool [(2, .class_ 4), (1, u "java/lang/Object"), (0, u "<init>"), (0, u "()V"), (0, .integer 2147483647), (0, .class_ 9), (0, u "com/example/invariant/invariant/check/BucketQueue"), (0, .methodref 8 11), (0, .nameAndType 5 12), (0, u "(I)V"), (0, .methodref 8 14), (0, .nameAndType 15 16), (0, u "isEmpty"), (0, u "()Z"), (0, .methodref 8 18), (0, .nameAndType 19 20), (0, u "push"), (0, u "(IJ)V"), (0, .methodref 8 22), (0, .nameAndType 23 24), (0, u "pop"), (0, u "()I"), (0, .methodref 8 26), (0, .nameAndType 27 28), (0, u "lowest"), (0, u "()J"), (0, .methodref 30 31), (0, .class_ 32), (0, .nameAndType 33 34), (0, u "java/lang/Math"), (0, u "min"), (0, u "(JJ)J"), (0, .class_ 36), (0, u "com/example/invariant/invariant/check/BucketQueuePopPinLaw"), (2, u "law"), (0, u "(IIIIII)Z")] 3

def k1m0 : Method := { name := "<init>", desc := "()V", sig := { parameters := [], returnType := none }, accessFlags := 1, code := none }
def k1c1 : Code := { maxStack := 4, maxLocals := 31, code := code, exceptionTable := #[], attributes := #[] }
def k1m1 : Method := { name := "law", desc := "(IIIIII)Z", sig := { parameters := [.int, .int, .int, .int, .int, .int], returnType := some .boolean }, accessFlags := 9, code := some k1c1 }
/-- com/example/invariant/invariant/check/BucketQueuePopPinLaw -/
def k1 : Class := { plain "com/example/invariant/invariant/check/BucketQueuePopPinLaw" (some 0) with
  accessFlags := 49
  interfaces := #[]
  cf := some (fileOf pool1 35 #[] #[{ accessFlags := 1, nameIndex := 5, descriptorIndex := 6, attributes := #[] }, { accessFlags := 9, nameIndex := 39, descriptorIndex := 40, attributes := #[] }] 49 2 #[] #[])
  fields := #[]
  methods := #[k1m0, k1m1]
  instanceTypes := #[]
  staticTypes := #[]
  resolved := Array.replicate 44 none
  statics := none }

def pool2 : Array CpInfo := pool [(1, .methodref 2 3), (0, .class_ 4), (0, .nameAndType 5 6), (0, u "java/lang/Object"), (0, u "<init>"), (0, u "()V"), (0, .class_ 8), (0, u "[I"), (0, .fieldref 10 11), (0, .class_ 12), (0, .nameAndType 13 14), (0, u "com/example/invariant/invariant/check/BucketQueue"), (0, u "buckets"), (0, u "[[I"), (0, .fieldref 10 16), (0, .nameAndType 17 8), (0, u "counts"), (0, .fieldref 10 19), (0, .nameAndType 20 21), (0, u "size"), (0, u "J"), (6, .fieldref 10 29), (0, .nameAndType 30 21), (0, u "lowest"), (0, u "(I)V"), (3, u "isEmpty"), (0, u "()Z"), (0, u "push"), (0, u "(IJ)V"), (0, u "pop"), (0, u "()I"), (0, u "()J")] 2

def k2c0 : Code := { maxStack := 3, maxLocals := 3, code := prog_51_method_1_code, exceptionTable := #[], attributes := #[] }
def k2m0 : Method := { name := "<init>", desc := "(I)V", sig := { parameters := [.int], returnType := none }, accessFlags := 0, code := some k2c0 }
def k2c1 : Code := { maxStack := 4, maxLocals := 1, code := prog_51_method_2_code, exceptionTable := #[], attributes := #[] }
def k2m1 : Method := { name := "isEmpty", desc := "()Z", sig := { parameters := [], returnType := some .boolean }, accessFlags := 0, code := some k2c1 }
def k2c2 : Code := { maxStack := 6, maxLocals := 5, code := prog_51_method_3_code, exceptionTable := #[], attributes := #[] }
def k2m2 : Method := { name := "push", desc := "(IJ)V", sig := { parameters := [.int, .long], returnType := none }, accessFlags := 0, code := some k2c2 }
def k2c3 : Code := { maxStack := 5, maxLocals := 2, code := prog_51_method_4_code, exceptionTable := #[], attributes := #[] }
def k2m3 : Method := { name := "pop", desc := "()I", sig := { parameters := [], returnType := some .int }, accessFlags := 0, code := some k2c3 }
def k2c4 : Code := { maxStack := 2, maxLocals := 1, code := prog_51_method_5_code, exceptionTable := #[], attributes := #[] }
def k2m4 : Method := { name := "lowest", desc := "()J", sig := { parameters := [], returnType := some .long }, accessFlags := 0, code := some k2c4 }
/-- com/example/invariant/invariant/check/BucketQueue -/
def k2 : Class := { plain "com/example/invariant/invariant/check/BucketQueue" (some 0) with
  accessFlags := 48
  interfaces := #[]
  cf := some (fileOf pool2 10 #[] #[{ accessFlags := 0, nameIndex := 5, descriptorIndex := 31, attributes := #[] }, { accessFlags := 0, nameIndex := 35, descriptorIndex := 36, attributes := #[] }, { accessFlags := 0, nameIndex := 37, descriptorIndex := 38, attributes := #[] }, { accessFlags := 0, nameIndex := 39, descriptorIndex := 40, attributes := #[] }, { accessFlags := 0, nameIndex := 30, descriptorIndex := 41, attributes := #[] }] 48 2 #[] #[{ accessFlags := 18, nameIndex := 13, descriptorIndex := 14, attributes := #[] }, { accessFlags := 18, nameIndex := 17, descriptorIndex := 8, attributes := #[] }, { accessFlags := 2, nameIndex := 30, descriptorIndex := 21, attributes := #[] }, { accessFlags := 2, nameIndex := 20, descriptorIndex := 21, attributes := #[] }])
  fields := #[{ name := "buckets", type := (.array (.array .int)), accessFlags := 18, slot := 0, constantValue := 0 }, { name := "counts", type := (.array .int), accessFlags := 18, slot := 1, constantValue := 0 }, { name := "lowest", type := .long, accessFlags := 2, slot := 2, constantValue := 0 }, { name := "size", type := .long, accessFlags := 2, slot := 3, constantValue := 0 }]
  methods := #[k2m0, k2m1, k2m2, k2m3, k2m4]
  instanceTypes := #[(.array (.array .int)), (.array .int), .long, .long]
  staticTypes := #[]
  resolved := Array.replicate 44 none
  statics := none }

def pool3 : Array CpInfo := pool [(1, .class_ 2), (0, u "java/lang/Math"), (1, .class_ 6), (1, u "java/lang/Object"), (0, u "<init>"), (0, u "()V"), (89, .class_ 100), (1, u "java/lang/Math$RandomNumberGeneratorHolder"), (20, u "(JJ)J"), (50, u "negativeZeroFloatBits"), (0, u "J"), (2, u "negativeZeroDoubleBits"), (24, u "min"), (43, u "$assertionsDisabled"), (0, u "Z"), (91, u "twoToTheDoubleScaleDown"), (0, u "D"), (4, u "twoToTheDoubleScaleUp"), (9, u "E"), (3, u "PI"), (2, u "TAU"), (2, u "DEGREES_TO_RADIANS"), (0, u "RADIANS_TO_DEGREES")] 94

def k3m0 : Method := { name := "<init>", desc := "()V", sig := { parameters := [], returnType := none }, accessFlags := 2, code := none }
def k3c1 : Code := { maxStack := 4, maxLocals := 4, code := jdk_29_method_70_code, exceptionTable := #[], attributes := #[] }
def k3m1 : Method := { name := "min", desc := "(JJ)J", sig := { parameters := [.long, .long], returnType := some .long }, accessFlags := 9, code := some k3c1 }
/-- java/lang/Math -/
def k3 : Class := { plain "java/lang/Math" (some 0) with
  accessFlags := 49
  interfaces := #[]
  cf := some (fileOf pool3 1 #[.nestMembers #[98]] #[{ accessFlags := 2, nameIndex := 7, descriptorIndex := 8, attributes := #[] }, { accessFlags := 9, nameIndex := 201, descriptorIndex := 121, attributes := #[] }] 49 4 #[] #[{ accessFlags := 25, nameIndex := 354, descriptorIndex := 339, attributes := #[] }, { accessFlags := 25, nameIndex := 358, descriptorIndex := 339, attributes := #[] }, { accessFlags := 25, nameIndex := 361, descriptorIndex := 339, attributes := #[] }, { accessFlags := 26, nameIndex := 364, descriptorIndex := 339, attributes := #[] }, { accessFlags := 26, nameIndex := 365, descriptorIndex := 339, attributes := #[] }, { accessFlags := 26, nameIndex := 172, descriptorIndex := 173, attributes := #[] }, { accessFlags := 26, nameIndex := 176, descriptorIndex := 173, attributes := #[] }, { accessFlags := 8, nameIndex := 344, descriptorIndex := 339, attributes := #[] }, { accessFlags := 8, nameIndex := 338, descriptorIndex := 339, attributes := #[] }, { accessFlags := 4120, nameIndex := 245, descriptorIndex := 246, attributes := #[] }])
  fields := #[{ name := "E", type := .double, accessFlags := 25, slot := 0, constantValue := 0 }, { name := "PI", type := .double, accessFlags := 25, slot := 1, constantValue := 0 }, { name := "TAU", type := .double, accessFlags := 25, slot := 2, constantValue := 0 }, { name := "DEGREES_TO_RADIANS", type := .double, accessFlags := 26, slot := 3, constantValue := 0 }, { name := "RADIANS_TO_DEGREES", type := .double, accessFlags := 26, slot := 4, constantValue := 0 }, { name := "negativeZeroFloatBits", type := .long, accessFlags := 26, slot := 5, constantValue := 0 }, { name := "negativeZeroDoubleBits", type := .long, accessFlags := 26, slot := 6, constantValue := 0 }, { name := "twoToTheDoubleScaleUp", type := .double, accessFlags := 8, slot := 7, constantValue := 0 }, { name := "twoToTheDoubleScaleDown", type := .double, accessFlags := 8, slot := 8, constantValue := 0 }, { name := "$assertionsDisabled", type := .boolean, accessFlags := 4120, slot := 9, constantValue := 0 }]
  methods := #[k3m0, k3m1]
  instanceTypes := #[]
  staticTypes := #[.double, .double, .double, .double, .double, .long, .long, .double, .double, .boolean]
  resolved := Array.replicate 460 none
  statics := none }

def pool4 : Array CpInfo := pool [(1, u "java/lang/Cloneable"), (0, .class_ 1), (0, u "java/lang/Object"), (0, .class_ 3)] 3

/-- java/lang/Cloneable -/
def k4 : Class := { plain "java/lang/Cloneable" (some 0) with
  accessFlags := 1537
  interfaces := #[]
  cf := some (fileOf pool4 2 #[] #[] 1537 4 #[] #[])
  fields := #[]
  methods := #[]
  instanceTypes := #[]
  staticTypes := #[]
  resolved := Array.replicate 8 none
  statics := none }

def pool5 : Array CpInfo := pool [(1, u "java/io/Serializable"), (0, .class_ 1), (0, u "java/lang/Object"), (0, .class_ 3)] 3

/-- java/io/Serializable -/
def k5 : Class := { plain "java/io/Serializable" (some 0) with
  accessFlags := 1537
  interfaces := #[]
  cf := some (fileOf pool5 2 #[] #[] 1537 4 #[] #[])
  fields := #[]
  methods := #[]
  instanceTypes := #[]
  staticTypes := #[]
  resolved := Array.replicate 8 none
  statics := none }

/-- the primitive byte -/
def k6 : Class := { plain "byte" none with kind := .primitive 'B', accessFlags := 0x411 }
/-- [B -/
def k7 : Class := { plain "[B" (some 0) with kind := .array 6 .byte, interfaces := #[4, 5], accessFlags := 1041 }

/-- the primitive int -/
def k8 : Class := { plain "int" none with kind := .primitive 'I', accessFlags := 0x411 }
/-- [I -/
def k9 : Class := { plain "[I" (some 0) with kind := .array 8 .int, interfaces := #[4, 5], accessFlags := 1041 }

def heap : Heap := #[]
def k10 : Class := { plain "[[I" (some 0) with kind := .array 9 (.array .int), interfaces := #[4, 5], accessFlags := 1041 }
def classes : Array Class := #[k0, k1, k2, k3, k4, k5, k6, k7, k8, k9, k10]
def interned : List (Array UInt16 × Addr) := []
def slotsUsed : Nat := 0
def theMethod : MethodId := ⟨1, 1⟩
def args0 : Array Value := #[.int 3, .int 4, .int 5, .int 6, .int 7, .int 8]
def aboutOver (below : List Frame) : State where
  vm := { classes := classes, interned := interned.toArray }
  heap := heap
  slotsUsed := slotsUsed
  threads := #[{ frames := .invoking theMethod args0 :: below }]
def below0 : List Frame := [.native { method := ⟨0, 0⟩, args := #[] }]
def about1 : State := aboutOver below0
def p0 : Program := .bare "" "" ""
def e0 : Env := launch0.env 0 0 0
theorem w_frames : about1.frames = Frame.invoking theMethod args0 :: below0 := rfl
set_option maxRecDepth 65536 in
theorem w_args : argsFit about1.vm theMethod args0 = true := by decide +kernel
set_option maxRecDepth 65536 in
theorem w_heap : heapFits about1 = true := by decide +kernel
set_option maxRecDepth 65536 in
theorem w_runnable : about1.curStatus? = some .runnable := by decide +kernel
set_option maxRecDepth 65536 in
theorem w_alone : about1.alone = true := by decide +kernel
set_option maxRecDepth 65536 in
theorem w_named : about1.methodNamed? x = some theMethod := by decide +kernel
set_option maxRecDepth 65536 in
theorem w_hears : about1.hears theMethod below0 = true := by decide +kernel
set_option maxRecDepth 65536 in
theorem w_ripe : about1.ripe theMethod args0 below0 = true := by decide +kernel
theorem w_running : about1.status = .running := rfl
set_option maxRecDepth 65536 in
theorem w_room : about1.hasRoom e0.platform room_1 = true :=
  launch0.hasRoom_least _ room_1 (by decide +kernel) (by decide +kernel) (by decide +kernel) (by decide +kernel) (by decide +kernel) (by decide +kernel)
theorem allAtoms_all (ts : List Jvm.Cond) (a : Array Jvm.Value) (st : Jvm.State) : (allAtoms ts).before a st = ts.all (fun c => c.before a st) := by
  induction ts with
  | nil => rfl
  | cons c t ih =>
    show (Jvm.Cond.and c (allAtoms t)).before a st = _
    rw [Jvm.Cond.before_and, ih, List.all_cons]
def words1 : List Jvm.Cond := Jvm.Cond.code x code maxLocals ret :: tables_1
/-- a 'code' word, met by the world's own term for the bytes: nothing is compared byte by byte -/
theorem code_word {y : MethodName} {bytes : ByteArray} {mx : Nat} {rt : Option FieldType} {a : Array Value} {s : State} {m : MethodId} {meth : Method} {c : Code} (h1 : s.methodNamed? y = some m) (h2 : s.vm.method? m = some meth) (h3 : meth.code = some c) (h4 : c.code = bytes)
    (h5 : (c.maxLocals == mx && c.exceptionTable.isEmpty && decide (c.maxStack ≤ mostOperands) && decide (meth.sig.returnType = rt) && !meth.locks && decide (parseMethodDescriptor y.desc = some meth.sig)) = true) : (Jvm.Cond.code y bytes mx rt).before a s = true := by
  simp only [Bool.and_eq_true, beq_iff_eq, Bool.not_eq_true', decide_eq_true_eq] at h5
  obtain ⟨⟨⟨⟨⟨g1, g2⟩, g3⟩, g4⟩, g5⟩, g6⟩ := h5
  simp [Cond.before, Cond.holds, Cond.value, h1, h2, h3, h4, g1, g2, g3, g4, g5, g6]
def isCode : Jvm.Cond → Bool
  | .code _ _ _ _ => true
  | _ => false
theorem all_split {L : List Jvm.Cond} {P : Jvm.Cond → Bool} (h1 : L.all (fun c => isCode c || P c) = true) (h2 : ∀ c ∈ L.filter isCode, P c = true) : L.all P = true := by
  refine List.all_eq_true.mpr fun c hc => ?_
  have h := List.all_eq_true.mp h1 c hc
  rcases Bool.eq_false_or_eq_true (isCode c) with hi | hi
  · exact h2 c (List.mem_filter.mpr ⟨hc, hi⟩)
  · simpa [hi] using h
set_option maxRecDepth 65536 in
theorem w_c0 : (Jvm.Cond.code x code maxLocals ret).before args0 about1 = true := code_word (m := ⟨1, 1⟩) (meth := k1m1) (c := k1c1) (by decide +kernel) rfl rfl rfl (by decide +kernel)
set_option maxRecDepth 65536 in
theorem w_c1 : (Jvm.Cond.code ({ cls := "com/example/invariant/invariant/check/BucketQueue", name := "<init>", desc := "(I)V" } : Jvm.MethodName) prog_51_method_1_code (3 : Nat) (Option.none : Option Jvm.ClassFile.FieldType)).before args0 about1 = true := code_word (m := ⟨2, 0⟩) (meth := k2m0) (c := k2c0) (by decide +kernel) rfl rfl rfl (by decide +kernel)
set_option maxRecDepth 65536 in
theorem w_c2 : (Jvm.Cond.code ({ cls := "java/lang/Object", name := "<init>", desc := "()V" } : Jvm.MethodName) object_method_1_code (1 : Nat) (Option.none : Option Jvm.ClassFile.FieldType)).before args0 about1 = true := code_word (m := ⟨0, 0⟩) (meth := k0m0) (c := k0c0) (by decide +kernel) rfl rfl rfl (by decide +kernel)
set_option maxRecDepth 65536 in
theorem w_c3 : (Jvm.Cond.code ({ cls := "com/example/invariant/invariant/check/BucketQueue", name := "isEmpty", desc := "()Z" } : Jvm.MethodName) prog_51_method_2_code (1 : Nat) (Option.some Jvm.ClassFile.FieldType.boolean)).before args0 about1 = true := code_word (m := ⟨2, 1⟩) (meth := k2m1) (c := k2c1) (by decide +kernel) rfl rfl rfl (by decide +kernel)
set_option maxRecDepth 65536 in
theorem w_c4 : (Jvm.Cond.code ({ cls := "com/example/invariant/invariant/check/BucketQueue", name := "push", desc := "(IJ)V" } : Jvm.MethodName) prog_51_method_3_code (5 : Nat) (Option.none : Option Jvm.ClassFile.FieldType)).before args0 about1 = true := code_word (m := ⟨2, 2⟩) (meth := k2m2) (c := k2c2) (by decide +kernel) rfl rfl rfl (by decide +kernel)
set_option maxRecDepth 65536 in
theorem w_c5 : (Jvm.Cond.code ({ cls := "com/example/invariant/invariant/check/BucketQueue", name := "pop", desc := "()I" } : Jvm.MethodName) prog_51_method_4_code (2 : Nat) (Option.some Jvm.ClassFile.FieldType.int)).before args0 about1 = true := code_word (m := ⟨2, 3⟩) (meth := k2m3) (c := k2c3) (by decide +kernel) rfl rfl rfl (by decide +kernel)
set_option maxRecDepth 65536 in
theorem w_c6 : (Jvm.Cond.code ({ cls := "com/example/invariant/invariant/check/BucketQueue", name := "lowest", desc := "()J" } : Jvm.MethodName) prog_51_method_5_code (1 : Nat) (Option.some Jvm.ClassFile.FieldType.long)).before args0 about1 = true := code_word (m := ⟨2, 4⟩) (meth := k2m4) (c := k2c4) (by decide +kernel) rfl rfl rfl (by decide +kernel)
set_option maxRecDepth 65536 in
theorem w_c7 : (Jvm.Cond.code ({ cls := "java/lang/Math", name := "min", desc := "(JJ)J" } : Jvm.MethodName) jdk_29_method_70_code (4 : Nat) (Option.some Jvm.ClassFile.FieldType.long)).before args0 about1 = true := code_word (m := ⟨3, 1⟩) (meth := k3m1) (c := k3c1) (by decide +kernel) rfl rfl rfl (by decide +kernel)
def codes1 : List Jvm.Cond := [Jvm.Cond.code x code maxLocals ret, Jvm.Cond.code ({ cls := "com/example/invariant/invariant/check/BucketQueue", name := "<init>", desc := "(I)V" } : Jvm.MethodName) prog_51_method_1_code (3 : Nat) (Option.none : Option Jvm.ClassFile.FieldType), Jvm.Cond.code ({ cls := "java/lang/Object", name := "<init>", desc := "()V" } : Jvm.MethodName) object_method_1_code (1 : Nat) (Option.none : Option Jvm.ClassFile.FieldType), Jvm.Cond.code ({ cls := "com/example/invariant/invariant/check/BucketQueue", name := "isEmpty", desc := "()Z" } : Jvm.MethodName) prog_51_method_2_code (1 : Nat) (Option.some Jvm.ClassFile.FieldType.boolean), Jvm.Cond.code ({ cls := "com/example/invariant/invariant/check/BucketQueue", name := "push", desc := "(IJ)V" } : Jvm.MethodName) prog_51_method_3_code (5 : Nat) (Option.none : Option Jvm.ClassFile.FieldType), Jvm.Cond.code ({ cls := "com/example/invariant/invariant/check/BucketQueue", name := "pop", desc := "()I" } : Jvm.MethodName) prog_51_method_4_code (2 : Nat) (Option.some Jvm.ClassFile.FieldType.int), Jvm.Cond.code ({ cls := "com/example/invariant/invariant/check/BucketQueue", name := "lowest", desc := "()J" } : Jvm.MethodName) prog_51_method_5_code (1 : Nat) (Option.some Jvm.ClassFile.FieldType.long), Jvm.Cond.code ({ cls := "java/lang/Math", name := "min", desc := "(JJ)J" } : Jvm.MethodName) jdk_29_method_70_code (4 : Nat) (Option.some Jvm.ClassFile.FieldType.long)]
set_option maxRecDepth 65536 in
theorem codes_eq : words1.filter isCode = codes1 := rfl
theorem w_codes : ∀ c ∈ words1.filter isCode, c.before args0 about1 = true := by
  rw [codes_eq]
  intro c hc
  simp only [codes1, List.mem_cons, List.not_mem_nil, or_false] at hc
  rcases hc with rfl | rfl | rfl | rfl | rfl | rfl | rfl | rfl
  · exact w_c0
  · exact w_c1
  · exact w_c2
  · exact w_c3
  · exact w_c4
  · exact w_c5
  · exact w_c6
  · exact w_c7
set_option maxRecDepth 65536 in
theorem w_t1 : (words1.take 24).all (fun c => isCode c || c.before args0 about1) = true := by decide +kernel
set_option maxRecDepth 65536 in
theorem w_t2 : (words1.drop 24).all (fun c => isCode c || c.before args0 about1) = true := by decide +kernel
theorem w_tables : (allAtoms (Jvm.Cond.code x code maxLocals ret :: tables_1)).before args0 about1 = true := by
  rw [allAtoms_all]
  show words1.all (fun c => c.before args0 about1) = true
  refine all_split ?_ w_codes
  rw [← List.take_append_drop 24 words1, List.all_append, w_t1, w_t2]
  rfl
set_option maxRecDepth 65536 in
theorem w_case : (Jvm.Cond.and given_1 narrow_1).before args0 about1 = true := by decide +kernel
theorem w_applies : (headSpec (Jvm.Cond.code x code maxLocals ret :: tables_1) room_1).applies x e0.platform about1 = true :=
  (Spec.applies_iff w_frames).mpr ⟨w_running, w_runnable, w_alone, w_named, w_hears, w_ripe, w_room, w_tables⟩
theorem atStart : AtStart classFile x code maxLocals ret World_1 tables_1 room_1 Calls_1 rest_1 Pre_1 launch0 p0 e0 about1 theMethod args0 below0 :=
  ⟨lists_1, trivial, launch0.admits_env _ _ _, launch0.least_env, fairChoices_fair.cas, fairChoices_fair.clock, w_frames, w_args, w_heap, w_applies, trivial, trivial, w_case⟩
end start1
theorem witness_1 : WitnessClaimed_1 := ⟨start1.p0, start1.e0, start1.about1, start1.theMethod, start1.args0, start1.below0, start1.atStart⟩
end Jvm.Pilot.@@N@@
