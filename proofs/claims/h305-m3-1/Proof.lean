import JvmDerived
import JvmDerived.Pilot.@@N@@Statement
import JvmDerived.Pilot.@@N@@Code
set_option linter.unusedVariables false
set_option linter.unusedSimpArgs false
namespace Jvm.Pilot.@@N@@
open Jvm Jvm.ClassFile Sem Op Lib Jvm.Free Jvm.Stand Jvm.LawKit Jvm.RoadKit Bundle Jvm.Pilot.@@N@@.Jvm.D
section OwnGo
variable {p : Program} {l : Launch} {e : Env} {R : Room} {s : State} {m : MethodId} {args : Array Value} {below : List Frame} {meth : Method} {c : Code} {Z : State} {n0 kc ks : Nat} {Q : Option Value → Heap → Prop} {y : MethodName} {bytes : ByteArray} {maxL : Nat} {ret : Option FieldType} {h h' : Heap} {cs sl : Nat} {pc pc' : Nat} {Ls Ls' : Array Slot} {st : List Value} {a0 : Array Value}
def Ctx (p : Program) (s : State) (m : MethodId) (meth : Method) (c : Code) (Z : State) (y : MethodName) (bytes : ByteArray) (maxL : Nat) (ret : Option FieldType) : Prop :=
  p.tables.exec = Jvm.exec ∧ c.code = bytes ∧ c.maxLocals = maxL ∧ meth.sig.returnType = ret ∧ meth.locks = false ∧ Z.Warmed39 s.vm ∧ s.vm.findClass y.cls = some m.cls ∧ meth.name = y.name
def Go (p : Program) (l : Launch) (e : Env) (R : Room) (s : State) (m : MethodId) (args : Array Value) (below : List Frame) (meth : Method) (c : Code) (Z : State) (n0 : Nat) (Q : Option Value → Heap → Prop) (kc ks : Nat) (h : Heap) (cs sl : Nat) (g : JFrame) : Prop :=
  ∀ (T : State) (L : List Loc), Fr n0 L → Old Z n0 h → Stand p l e R s m args below meth c T L cs sl → T.heap = h →
    ∃ (U : State) (v : Option Value) (L' : List Loc), Steps p.tables e below (T.setTop g) U ∧ U.status = .running ∧ Ended U below (.returned v) ∧ Fr n0 L' ∧ Old Z n0 U.heap ∧ s.WarmedH U.vm ∧ s.sameButNew ({ U with vm := s.vm } : State) L' kc ks ∧ Q v U.heap
def Met (l : Launch) (Z : State) (n0 : Nat) (y : MethodName) (bytes : ByteArray) (maxL : Nat) (ret : Option FieldType) (ws : List Jvm.Cond) (rm : Room) (as : Array Value) (h : Heap) (Q : Option Value → Heap → Prop) : Prop :=
  MetFree l y (head1 (Jvm.Cond.code y bytes maxL ret :: ws) rm) (fun a U => a = as ∧ Z.Warmed39 U.vm ∧ U.heap = h) (fun _ _ _ _ _ => True) (fun _ U o U' => ∃ v L, o = .returned v ∧ (Fr n0 L ∧ Old Z n0 U'.heap ∧ Q v U'.heap) ∧ FrameEnd U o U' L rm.cells rm.slots)
theorem met_of {ws : List Jvm.Cond} {rm : Room} {as : Array Value} (hpl : plainFor y = true) (hef : ∀ m, entryFrame m as maxL = mkF m 0 Ls []) (O : Old Z n0 h)
    (body : ∀ p e s m below meth c, Ctx p s m meth c Z y bytes maxL ret → Go p l e rm s m as below meth c Z n0 Q rm.cells rm.slots h 0 0 (mkF m 0 Ls [])) : Met l Z n0 y bytes maxL ret ws rm as h Q := by
  refine MetFree.of_bodySF hpl hisR ?_
  intro p e s m args below meth c s₁ Bd hml hP hK
  obtain ⟨rfl, hZ, hh⟩ := hP
  have X0 := Stand.of_body Bd
  obtain ⟨U, v, L', h1, h2, h3, h4, h5, h6, h7, h8⟩ := body p e s m below meth c ⟨Bd.exec, Bd.bytes, hml, Bd.returns, Bd.notSynchronized, hZ, findClass_of_methodNamed Bd.named, (name_of_methodNamed Bd.named Bd.method).1⟩ s₁ [] (Fr.nil n0) O X0 (by rw [← hh, Bd.state]; rfl)
  exact ⟨U, _, castTop (hef m) h1, h2, h3, v, L', rfl, ⟨h4, h5, h8⟩, ⟨_, rfl⟩, h6, h7⟩
theorem Met.mono {ws : List Jvm.Cond} {rm : Room} {as : Array Value} {Q' : Option Value → Heap → Prop} (M : Met l Z n0 y bytes maxL ret ws rm as h Q) (q : ∀ v h', Q v h' → Q' v h') : Met l Z n0 y bytes maxL ret ws rm as h Q' := by
  unfold Met at M ⊢
  refine MetFree.mono M (fun _ _ h => h) (fun _ _ _ _ _ h => h) ?_
  rintro _ _ _ _ _ ⟨v, L, h1, ⟨h2, h3, h4⟩, h5⟩
  exact ⟨v, L, h1, ⟨h2, h3, q _ _ h4⟩, h5⟩
theorem go_step {g g' : JFrame} (K : Go p l e R s m args below meth c Z n0 Q kc ks h cs sl g') (hs : ∀ T t, At T m c below → Steps p.tables e below (T.setTop g') t → Steps p.tables e below (T.setTop g) t) : Go p l e R s m args below meth c Z n0 Q kc ks h cs sl g := fun T L hL O X eT => by
  obtain ⟨U, v, L', h1, r⟩ := K T L hL O X eT
  exact ⟨U, v, L', hs T U X.here h1, r⟩
theorem go_stepX {g g' : JFrame} (K : Go p l e R s m args below meth c Z n0 Q kc ks h cs sl g') (hs : ∀ T t L, Stand p l e R s m args below meth c T L cs sl → T.heap = h → Steps p.tables e below (T.setTop g') t → Steps p.tables e below (T.setTop g) t) : Go p l e R s m args below meth c Z n0 Q kc ks h cs sl g := fun T L hL O X eT => by
  obtain ⟨U, v, L', h1, r⟩ := K T L hL O X eT
  exact ⟨U, v, L', hs T U L X eT h1, r⟩
theorem go_stepT {g g' : JFrame} (K : Go p l e R s m args below meth c Z n0 Q kc ks h cs sl g') (hs : ∀ T L, Stand p l e R s m args below meth c T L cs sl → T.heap = h → ∃ T', Stand p l e R s m args below meth c T' L cs sl ∧ T'.heap = h ∧ ∀ t, Steps p.tables e below (T'.setTop g') t → Steps p.tables e below (T.setTop g) t) : Go p l e R s m args below meth c Z n0 Q kc ks h cs sl g := fun T L hL O X eT => by
  obtain ⟨T', X', e', hs'⟩ := hs T L X eT
  obtain ⟨U, v, L', h1, r⟩ := K T' L hL O X' e'
  exact ⟨U, v, L', hs' U h1, r⟩
theorem go_old {g : JFrame} (K : Old Z n0 h → Go p l e R s m args below meth c Z n0 Q kc ks h cs sl g) : Go p l e R s m args below meth c Z n0 Q kc ks h cs sl g := fun T L hL O => K O T L hL O
theorem go_more {g : JFrame} {cs' sl' : Nat} (hc : cs ≤ cs') (hs : sl ≤ sl') (K : Go p l e R s m args below meth c Z n0 Q kc ks h cs' sl' g) : Go p l e R s m args below meth c Z n0 Q kc ks h cs sl g := fun T L hL O X eT => K T L hL O (X.more hc hs) eT
theorem go_st {st' : List Value} (e0 : st = st') (K : Go p l e R s m args below meth c Z n0 Q kc ks h cs sl (mkF m pc Ls st')) : Go p l e R s m args below meth c Z n0 Q kc ks h cs sl (mkF m pc Ls st) := e0 ▸ K
theorem go_ls (e0 : Ls = Ls') (K : Go p l e R s m args below meth c Z n0 Q kc ks h cs sl (mkF m pc Ls' st)) : Go p l e R s m args below meth c Z n0 Q kc ks h cs sl (mkF m pc Ls st) := e0 ▸ K
theorem go_h {h' : Heap} {g : JFrame} (e0 : h = h') (K : Go p l e R s m args below meth c Z n0 Q kc ks h' cs sl g) : Go p l e R s m args below meth c Z n0 Q kc ks h cs sl g := e0 ▸ K
theorem go_iload (C : Ctx p s m meth c Z y bytes maxL ret) {k : Nat} {x : Int32} (hd : decode bytes pc = .ok (.iload k, 2)) (hl : Ls[k]? = some (.val (.int x))) (hp : pc + 2 = pc') (K : Go p l e R s m args below meth c Z n0 Q kc ks h cs sl (mkF m pc' Ls (.int x :: st))) : Go p l e R s m args below meth c Z n0 Q kc ks h cs sl (mkF m pc Ls (st)) := by
  subst hp
  exact go_step K fun T t a k => XS.iload a C.1 rfl (hb C.2.1 hd) hl k
theorem go_iloadN (C : Ctx p s m meth c Z y bytes maxL ret) {k : Fin 4} {x : Int32} (hd : decode bytes pc = .ok (.iload_n k, 1)) (hl : Ls[k.val]? = some (.val (.int x))) (hp : pc + 1 = pc') (K : Go p l e R s m args below meth c Z n0 Q kc ks h cs sl (mkF m pc' Ls (.int x :: st))) : Go p l e R s m args below meth c Z n0 Q kc ks h cs sl (mkF m pc Ls (st)) := by
  subst hp
  exact go_step K fun T t a k => XS.iloadN a C.1 rfl (hb C.2.1 hd) hl k
theorem go_lload (C : Ctx p s m meth c Z y bytes maxL ret) {k : Nat} {x : Int64} (hd : decode bytes pc = .ok (.lload k, 2)) (hl : Ls[k]? = some (.val (.long x))) (hp : pc + 2 = pc') (K : Go p l e R s m args below meth c Z n0 Q kc ks h cs sl (mkF m pc' Ls (.long x :: st))) : Go p l e R s m args below meth c Z n0 Q kc ks h cs sl (mkF m pc Ls (st)) := by
  subst hp
  exact go_step K fun T t a k => XS.lload a C.1 rfl (hb C.2.1 hd) hl k
theorem go_lloadN (C : Ctx p s m meth c Z y bytes maxL ret) {k : Fin 4} {x : Int64} (hd : decode bytes pc = .ok (.lload_n k, 1)) (hl : Ls[k.val]? = some (.val (.long x))) (hp : pc + 1 = pc') (K : Go p l e R s m args below meth c Z n0 Q kc ks h cs sl (mkF m pc' Ls (.long x :: st))) : Go p l e R s m args below meth c Z n0 Q kc ks h cs sl (mkF m pc Ls (st)) := by
  subst hp
  exact go_step K fun T t a k => XS.lloadN a C.1 rfl (hb C.2.1 hd) hl k
theorem go_aload (C : Ctx p s m meth c Z y bytes maxL ret) {k : Nat} {v : Value} (hd : decode bytes pc = .ok (.aload k, 2)) (hl : Ls[k]? = some (.val v)) (hv : v.isRef = true) (hp : pc + 2 = pc') (K : Go p l e R s m args below meth c Z n0 Q kc ks h cs sl (mkF m pc' Ls (v :: st))) : Go p l e R s m args below meth c Z n0 Q kc ks h cs sl (mkF m pc Ls (st)) := by
  subst hp
  exact go_step K fun T t a k => XS.aload a C.1 rfl (hb C.2.1 hd) hl hv k
theorem go_aloadN (C : Ctx p s m meth c Z y bytes maxL ret) {k : Fin 4} {v : Value} (hd : decode bytes pc = .ok (.aload_n k, 1)) (hl : Ls[k.val]? = some (.val v)) (hv : v.isRef = true) (hp : pc + 1 = pc') (K : Go p l e R s m args below meth c Z n0 Q kc ks h cs sl (mkF m pc' Ls (v :: st))) : Go p l e R s m args below meth c Z n0 Q kc ks h cs sl (mkF m pc Ls (st)) := by
  subst hp
  exact go_step K fun T t a k => XS.aloadN a C.1 rfl (hb C.2.1 hd) hl hv k
theorem go_istore (C : Ctx p s m meth c Z y bytes maxL ret) {k : Nat} {x : Int32} (hd : decode bytes pc = .ok (.istore k, 2)) (hl : storeLocals Ls k (.int x) = some Ls') (hp : pc + 2 = pc') (K : Go p l e R s m args below meth c Z n0 Q kc ks h cs sl (mkF m pc' Ls' (st))) : Go p l e R s m args below meth c Z n0 Q kc ks h cs sl (mkF m pc Ls (.int x :: st)) := by
  subst hp
  exact go_step K fun T t a k => XS.istore a C.1 rfl (hb C.2.1 hd) rfl hl k
theorem go_istoreN (C : Ctx p s m meth c Z y bytes maxL ret) {k : Fin 4} {x : Int32} (hd : decode bytes pc = .ok (.istore_n k, 1)) (hl : storeLocals Ls k.val (.int x) = some Ls') (hp : pc + 1 = pc') (K : Go p l e R s m args below meth c Z n0 Q kc ks h cs sl (mkF m pc' Ls' (st))) : Go p l e R s m args below meth c Z n0 Q kc ks h cs sl (mkF m pc Ls (.int x :: st)) := by
  subst hp
  exact go_step K fun T t a k => XS.istoreN a C.1 rfl (hb C.2.1 hd) rfl hl k
theorem go_lstore (C : Ctx p s m meth c Z y bytes maxL ret) {k : Nat} {x : Int64} (hd : decode bytes pc = .ok (.lstore k, 2)) (hl : storeLocals Ls k (.long x) = some Ls') (hp : pc + 2 = pc') (K : Go p l e R s m args below meth c Z n0 Q kc ks h cs sl (mkF m pc' Ls' (st))) : Go p l e R s m args below meth c Z n0 Q kc ks h cs sl (mkF m pc Ls (.long x :: st)) := by
  subst hp
  exact go_step K fun T t a k => XS.lstore a C.1 rfl (hb C.2.1 hd) rfl hl k
theorem go_lstoreN (C : Ctx p s m meth c Z y bytes maxL ret) {k : Fin 4} {x : Int64} (hd : decode bytes pc = .ok (.lstore_n k, 1)) (hl : storeLocals Ls k.val (.long x) = some Ls') (hp : pc + 1 = pc') (K : Go p l e R s m args below meth c Z n0 Q kc ks h cs sl (mkF m pc' Ls' (st))) : Go p l e R s m args below meth c Z n0 Q kc ks h cs sl (mkF m pc Ls (.long x :: st)) := by
  subst hp
  exact go_step K fun T t a k => XS.lstoreN a C.1 rfl (hb C.2.1 hd) rfl hl k
theorem go_astore (C : Ctx p s m meth c Z y bytes maxL ret) {k : Nat} {v : Value} (hd : decode bytes pc = .ok (.astore k, 2)) (hv : v.isRef = true) (hl : storeLocals Ls k v = some Ls') (hp : pc + 2 = pc') (K : Go p l e R s m args below meth c Z n0 Q kc ks h cs sl (mkF m pc' Ls' (st))) : Go p l e R s m args below meth c Z n0 Q kc ks h cs sl (mkF m pc Ls (v :: st)) := by
  subst hp
  exact go_step K fun T t a k => XS.astore a C.1 rfl (hb C.2.1 hd) rfl hv hl k
theorem go_astoreN (C : Ctx p s m meth c Z y bytes maxL ret) {k : Fin 4} {v : Value} (hd : decode bytes pc = .ok (.astore_n k, 1)) (hv : v.isRef = true) (hl : storeLocals Ls k.val v = some Ls') (hp : pc + 1 = pc') (K : Go p l e R s m args below meth c Z n0 Q kc ks h cs sl (mkF m pc' Ls' (st))) : Go p l e R s m args below meth c Z n0 Q kc ks h cs sl (mkF m pc Ls (v :: st)) := by
  subst hp
  exact go_step K fun T t a k => XS.astoreN a C.1 rfl (hb C.2.1 hd) rfl hv hl k
theorem go_iinc (C : Ctx p s m meth c Z y bytes maxL ret) {k : Nat} {cst : Int} {x : Int32} (hd : decode bytes pc = .ok (.iinc k cst, 3)) (hl : Ls[k]? = some (.val (.int x))) (hl' : storeLocals Ls k (.int (x + Int32.ofInt cst)) = some Ls') (hp : pc + 3 = pc') (K : Go p l e R s m args below meth c Z n0 Q kc ks h cs sl (mkF m pc' Ls' (st))) : Go p l e R s m args below meth c Z n0 Q kc ks h cs sl (mkF m pc Ls (st)) := by
  subst hp
  exact go_step K fun T t a k => XS.iinc a C.1 rfl (hb C.2.1 hd) hl hl' k
theorem go_iconst (C : Ctx p s m meth c Z y bytes maxL ret) {i : Int} {z : Int32} (hd : decode bytes pc = .ok (.iconst i, 1)) (hz : Int32.ofInt i = z) (hp : pc + 1 = pc') (K : Go p l e R s m args below meth c Z n0 Q kc ks h cs sl (mkF m pc' Ls (.int z :: st))) : Go p l e R s m args below meth c Z n0 Q kc ks h cs sl (mkF m pc Ls (st)) := by
  subst hp hz
  exact go_step K fun T t a k => XS.iconst a C.1 rfl (hb C.2.1 hd) k
theorem go_bipush (C : Ctx p s m meth c Z y bytes maxL ret) {i : Int} {z : Int32} (hd : decode bytes pc = .ok (.bipush i, 2)) (hz : (Int8.ofInt i).toInt32 = z) (hp : pc + 2 = pc') (K : Go p l e R s m args below meth c Z n0 Q kc ks h cs sl (mkF m pc' Ls (.int z :: st))) : Go p l e R s m args below meth c Z n0 Q kc ks h cs sl (mkF m pc Ls (st)) := by
  subst hp hz
  exact go_step K fun T t a k => XS.bipush a C.1 rfl (hb C.2.1 hd) k
theorem go_sipush (C : Ctx p s m meth c Z y bytes maxL ret) {i : Int} {z : Int32} (hd : decode bytes pc = .ok (.sipush i, 3)) (hz : (Int16.ofInt i).toInt32 = z) (hp : pc + 3 = pc') (K : Go p l e R s m args below meth c Z n0 Q kc ks h cs sl (mkF m pc' Ls (.int z :: st))) : Go p l e R s m args below meth c Z n0 Q kc ks h cs sl (mkF m pc Ls (st)) := by
  subst hp hz
  exact go_step K fun T t a k => XS.sipush a C.1 rfl (hb C.2.1 hd) k
theorem go_lconst (C : Ctx p s m meth c Z y bytes maxL ret) {k : Fin 2} {z : Int64} (hd : decode bytes pc = .ok (.lconst k, 1)) (hz : Int64.ofNat k = z) (hp : pc + 1 = pc') (K : Go p l e R s m args below meth c Z n0 Q kc ks h cs sl (mkF m pc' Ls (.long z :: st))) : Go p l e R s m args below meth c Z n0 Q kc ks h cs sl (mkF m pc Ls (st)) := by
  subst hp hz
  exact go_step K fun T t a k => XS.lconst a C.1 rfl (hb C.2.1 hd) k
theorem go_aconstNull (C : Ctx p s m meth c Z y bytes maxL ret)  (hd : decode bytes pc = .ok (.aconst_null, 1))  (hp : pc + 1 = pc') (K : Go p l e R s m args below meth c Z n0 Q kc ks h cs sl (mkF m pc' Ls (.null :: st))) : Go p l e R s m args below meth c Z n0 Q kc ks h cs sl (mkF m pc Ls (st)) := by
  subst hp
  exact go_step K fun T t a k => XS.aconstNull a C.1 rfl (hb C.2.1 hd) k
theorem go_iadd (C : Ctx p s m meth c Z y bytes maxL ret) {x y : Int32} (hd : decode bytes pc = .ok (.iadd, 1))  (hp : pc + 1 = pc') (K : Go p l e R s m args below meth c Z n0 Q kc ks h cs sl (mkF m pc' Ls (.int (x + y) :: st))) : Go p l e R s m args below meth c Z n0 Q kc ks h cs sl (mkF m pc Ls (.int y :: .int x :: st)) := by
  subst hp
  exact go_step K fun T t a k => XS.iadd a C.1 rfl (hb C.2.1 hd) rfl k
theorem go_ladd (C : Ctx p s m meth c Z y bytes maxL ret) {x y : Int64} (hd : decode bytes pc = .ok (.ladd, 1))  (hp : pc + 1 = pc') (K : Go p l e R s m args below meth c Z n0 Q kc ks h cs sl (mkF m pc' Ls (.long (x + y) :: st))) : Go p l e R s m args below meth c Z n0 Q kc ks h cs sl (mkF m pc Ls (.long y :: .long x :: st)) := by
  subst hp
  exact go_step K fun T t a k => XS.ladd a C.1 rfl (hb C.2.1 hd) rfl k
theorem go_isub (C : Ctx p s m meth c Z y bytes maxL ret) {x y : Int32} (hd : decode bytes pc = .ok (.isub, 1))  (hp : pc + 1 = pc') (K : Go p l e R s m args below meth c Z n0 Q kc ks h cs sl (mkF m pc' Ls (.int (x - y) :: st))) : Go p l e R s m args below meth c Z n0 Q kc ks h cs sl (mkF m pc Ls (.int y :: .int x :: st)) := by
  subst hp
  exact go_step K fun T t a k => XS.isub a C.1 rfl (hb C.2.1 hd) rfl k
theorem go_lsub (C : Ctx p s m meth c Z y bytes maxL ret) {x y : Int64} (hd : decode bytes pc = .ok (.lsub, 1))  (hp : pc + 1 = pc') (K : Go p l e R s m args below meth c Z n0 Q kc ks h cs sl (mkF m pc' Ls (.long (x - y) :: st))) : Go p l e R s m args below meth c Z n0 Q kc ks h cs sl (mkF m pc Ls (.long y :: .long x :: st)) := by
  subst hp
  exact go_step K fun T t a k => XS.lsub a C.1 rfl (hb C.2.1 hd) rfl k
theorem go_imul (C : Ctx p s m meth c Z y bytes maxL ret) {x y : Int32} (hd : decode bytes pc = .ok (.imul, 1))  (hp : pc + 1 = pc') (K : Go p l e R s m args below meth c Z n0 Q kc ks h cs sl (mkF m pc' Ls (.int (x * y) :: st))) : Go p l e R s m args below meth c Z n0 Q kc ks h cs sl (mkF m pc Ls (.int y :: .int x :: st)) := by
  subst hp
  exact go_step K fun T t a k => XS.imul a C.1 rfl (hb C.2.1 hd) rfl k
theorem go_lmul (C : Ctx p s m meth c Z y bytes maxL ret) {x y : Int64} (hd : decode bytes pc = .ok (.lmul, 1))  (hp : pc + 1 = pc') (K : Go p l e R s m args below meth c Z n0 Q kc ks h cs sl (mkF m pc' Ls (.long (x * y) :: st))) : Go p l e R s m args below meth c Z n0 Q kc ks h cs sl (mkF m pc Ls (.long y :: .long x :: st)) := by
  subst hp
  exact go_step K fun T t a k => XS.lmul a C.1 rfl (hb C.2.1 hd) rfl k
theorem go_iand (C : Ctx p s m meth c Z y bytes maxL ret) {x y : Int32} (hd : decode bytes pc = .ok (.iand, 1))  (hp : pc + 1 = pc') (K : Go p l e R s m args below meth c Z n0 Q kc ks h cs sl (mkF m pc' Ls (.int (x &&& y) :: st))) : Go p l e R s m args below meth c Z n0 Q kc ks h cs sl (mkF m pc Ls (.int y :: .int x :: st)) := by
  subst hp
  exact go_step K fun T t a k => XS.iand a C.1 rfl (hb C.2.1 hd) rfl k
theorem go_land (C : Ctx p s m meth c Z y bytes maxL ret) {x y : Int64} (hd : decode bytes pc = .ok (.land, 1))  (hp : pc + 1 = pc') (K : Go p l e R s m args below meth c Z n0 Q kc ks h cs sl (mkF m pc' Ls (.long (x &&& y) :: st))) : Go p l e R s m args below meth c Z n0 Q kc ks h cs sl (mkF m pc Ls (.long y :: .long x :: st)) := by
  subst hp
  exact go_step K fun T t a k => XS.land a C.1 rfl (hb C.2.1 hd) rfl k
theorem go_ior (C : Ctx p s m meth c Z y bytes maxL ret) {x y : Int32} (hd : decode bytes pc = .ok (.ior, 1))  (hp : pc + 1 = pc') (K : Go p l e R s m args below meth c Z n0 Q kc ks h cs sl (mkF m pc' Ls (.int (x ||| y) :: st))) : Go p l e R s m args below meth c Z n0 Q kc ks h cs sl (mkF m pc Ls (.int y :: .int x :: st)) := by
  subst hp
  exact go_step K fun T t a k => XS.ior a C.1 rfl (hb C.2.1 hd) rfl k
theorem go_lor (C : Ctx p s m meth c Z y bytes maxL ret) {x y : Int64} (hd : decode bytes pc = .ok (.lor, 1))  (hp : pc + 1 = pc') (K : Go p l e R s m args below meth c Z n0 Q kc ks h cs sl (mkF m pc' Ls (.long (x ||| y) :: st))) : Go p l e R s m args below meth c Z n0 Q kc ks h cs sl (mkF m pc Ls (.long y :: .long x :: st)) := by
  subst hp
  exact go_step K fun T t a k => XS.lor a C.1 rfl (hb C.2.1 hd) rfl k
theorem go_ixor (C : Ctx p s m meth c Z y bytes maxL ret) {x y : Int32} (hd : decode bytes pc = .ok (.ixor, 1))  (hp : pc + 1 = pc') (K : Go p l e R s m args below meth c Z n0 Q kc ks h cs sl (mkF m pc' Ls (.int (x ^^^ y) :: st))) : Go p l e R s m args below meth c Z n0 Q kc ks h cs sl (mkF m pc Ls (.int y :: .int x :: st)) := by
  subst hp
  exact go_step K fun T t a k => XS.ixor a C.1 rfl (hb C.2.1 hd) rfl k
theorem go_lxor (C : Ctx p s m meth c Z y bytes maxL ret) {x y : Int64} (hd : decode bytes pc = .ok (.lxor, 1))  (hp : pc + 1 = pc') (K : Go p l e R s m args below meth c Z n0 Q kc ks h cs sl (mkF m pc' Ls (.long (x ^^^ y) :: st))) : Go p l e R s m args below meth c Z n0 Q kc ks h cs sl (mkF m pc Ls (.long y :: .long x :: st)) := by
  subst hp
  exact go_step K fun T t a k => XS.lxor a C.1 rfl (hb C.2.1 hd) rfl k
theorem go_ishl (C : Ctx p s m meth c Z y bytes maxL ret) {x y : Int32} (hd : decode bytes pc = .ok (.ishl, 1))  (hp : pc + 1 = pc') (K : Go p l e R s m args below meth c Z n0 Q kc ks h cs sl (mkF m pc' Ls (.int (x <<< (y &&& 31)) :: st))) : Go p l e R s m args below meth c Z n0 Q kc ks h cs sl (mkF m pc Ls (.int y :: .int x :: st)) := by
  subst hp
  exact go_step K fun T t a k => XS.ishl a C.1 rfl (hb C.2.1 hd) rfl k
theorem go_ishr (C : Ctx p s m meth c Z y bytes maxL ret) {x y : Int32} (hd : decode bytes pc = .ok (.ishr, 1))  (hp : pc + 1 = pc') (K : Go p l e R s m args below meth c Z n0 Q kc ks h cs sl (mkF m pc' Ls (.int (x >>> (y &&& 31)) :: st))) : Go p l e R s m args below meth c Z n0 Q kc ks h cs sl (mkF m pc Ls (.int y :: .int x :: st)) := by
  subst hp
  exact go_step K fun T t a k => XS.ishr a C.1 rfl (hb C.2.1 hd) rfl k
theorem go_iushr (C : Ctx p s m meth c Z y bytes maxL ret) {x y : Int32} (hd : decode bytes pc = .ok (.iushr, 1))  (hp : pc + 1 = pc') (K : Go p l e R s m args below meth c Z n0 Q kc ks h cs sl (mkF m pc' Ls (.int ((x.toUInt32 >>> (y &&& 31).toUInt32).toInt32) :: st))) : Go p l e R s m args below meth c Z n0 Q kc ks h cs sl (mkF m pc Ls (.int y :: .int x :: st)) := by
  subst hp
  exact go_step K fun T t a k => XS.iushr a C.1 rfl (hb C.2.1 hd) rfl k
theorem go_lshl (C : Ctx p s m meth c Z y bytes maxL ret) {x : Int64} {y' : Int32} (hd : decode bytes pc = .ok (.lshl, 1))  (hp : pc + 1 = pc') (K : Go p l e R s m args below meth c Z n0 Q kc ks h cs sl (mkF m pc' Ls (.long (x <<< (y' &&& 0x3f).toInt64) :: st))) : Go p l e R s m args below meth c Z n0 Q kc ks h cs sl (mkF m pc Ls (.int y' :: .long x :: st)) := by
  subst hp
  exact go_step K fun T t a k => XS.lshl a C.1 rfl (hb C.2.1 hd) rfl k
theorem go_lshr (C : Ctx p s m meth c Z y bytes maxL ret) {x : Int64} {y' : Int32} (hd : decode bytes pc = .ok (.lshr, 1))  (hp : pc + 1 = pc') (K : Go p l e R s m args below meth c Z n0 Q kc ks h cs sl (mkF m pc' Ls (.long (x >>> (y' &&& 0x3f).toInt64) :: st))) : Go p l e R s m args below meth c Z n0 Q kc ks h cs sl (mkF m pc Ls (.int y' :: .long x :: st)) := by
  subst hp
  exact go_step K fun T t a k => XS.lshr a C.1 rfl (hb C.2.1 hd) rfl k
theorem go_lushr (C : Ctx p s m meth c Z y bytes maxL ret) {x : Int64} {y' : Int32} (hd : decode bytes pc = .ok (.lushr, 1))  (hp : pc + 1 = pc') (K : Go p l e R s m args below meth c Z n0 Q kc ks h cs sl (mkF m pc' Ls (.long ((x.toUInt64 >>> (y' &&& 0x3f).toInt64.toUInt64).toInt64) :: st))) : Go p l e R s m args below meth c Z n0 Q kc ks h cs sl (mkF m pc Ls (.int y' :: .long x :: st)) := by
  subst hp
  exact go_step K fun T t a k => XS.lushr a C.1 rfl (hb C.2.1 hd) rfl k
theorem go_lcmp (C : Ctx p s m meth c Z y bytes maxL ret) {x y' : Int64} (hd : decode bytes pc = .ok (.lcmp, 1))  (hp : pc + 1 = pc') (K : Go p l e R s m args below meth c Z n0 Q kc ks h cs sl (mkF m pc' Ls (.int (lcmpW x y') :: st))) : Go p l e R s m args below meth c Z n0 Q kc ks h cs sl (mkF m pc Ls (.long y' :: .long x :: st)) := by
  subst hp
  exact go_step K fun T t a k => XS.lcmp a C.1 rfl (hb C.2.1 hd) rfl k
theorem go_idiv (C : Ctx p s m meth c Z y bytes maxL ret) {x y' : Int32} (hd : decode bytes pc = .ok (.idiv, 1)) (hy : y' ≠ 0) (hp : pc + 1 = pc') (K : Go p l e R s m args below meth c Z n0 Q kc ks h cs sl (mkF m pc' Ls (.int (x / y') :: st))) : Go p l e R s m args below meth c Z n0 Q kc ks h cs sl (mkF m pc Ls (.int y' :: .int x :: st)) := by
  subst hp
  exact go_step K fun T t a k => XS.idiv a C.1 rfl (hb C.2.1 hd) rfl hy k
theorem go_ldiv (C : Ctx p s m meth c Z y bytes maxL ret) {x y' : Int64} (hd : decode bytes pc = .ok (.ldiv, 1)) (hy : y' ≠ 0) (hp : pc + 1 = pc') (K : Go p l e R s m args below meth c Z n0 Q kc ks h cs sl (mkF m pc' Ls (.long (x / y') :: st))) : Go p l e R s m args below meth c Z n0 Q kc ks h cs sl (mkF m pc Ls (.long y' :: .long x :: st)) := by
  subst hp
  exact go_step K fun T t a k => XS.ldiv a C.1 rfl (hb C.2.1 hd) rfl hy k
theorem go_irem (C : Ctx p s m meth c Z y bytes maxL ret) {x y' : Int32} (hd : decode bytes pc = .ok (.irem, 1)) (hy : y' ≠ 0) (hp : pc + 1 = pc') (K : Go p l e R s m args below meth c Z n0 Q kc ks h cs sl (mkF m pc' Ls (.int (x % y') :: st))) : Go p l e R s m args below meth c Z n0 Q kc ks h cs sl (mkF m pc Ls (.int y' :: .int x :: st)) := by
  subst hp
  exact go_step K fun T t a k => XS.irem a C.1 rfl (hb C.2.1 hd) rfl hy (by rw [irem_eq_mod]; exact k)
theorem go_lrem (C : Ctx p s m meth c Z y bytes maxL ret) {x y' : Int64} (hd : decode bytes pc = .ok (.lrem, 1)) (hy : y' ≠ 0) (hp : pc + 1 = pc') (K : Go p l e R s m args below meth c Z n0 Q kc ks h cs sl (mkF m pc' Ls (.long (x % y') :: st))) : Go p l e R s m args below meth c Z n0 Q kc ks h cs sl (mkF m pc Ls (.long y' :: .long x :: st)) := by
  subst hp
  exact go_step K fun T t a k => XS.lrem a C.1 rfl (hb C.2.1 hd) rfl hy (by rw [lrem_mod]; exact k)
theorem go_ineg (C : Ctx p s m meth c Z y bytes maxL ret) {x : Int32} (hd : decode bytes pc = .ok (.ineg, 1))  (hp : pc + 1 = pc') (K : Go p l e R s m args below meth c Z n0 Q kc ks h cs sl (mkF m pc' Ls (.int (-x) :: st))) : Go p l e R s m args below meth c Z n0 Q kc ks h cs sl (mkF m pc Ls (.int x :: st)) := by
  subst hp
  exact go_step K fun T t a k => XS.ineg a C.1 rfl (hb C.2.1 hd) rfl k
theorem go_lneg (C : Ctx p s m meth c Z y bytes maxL ret) {x : Int64} (hd : decode bytes pc = .ok (.lneg, 1))  (hp : pc + 1 = pc') (K : Go p l e R s m args below meth c Z n0 Q kc ks h cs sl (mkF m pc' Ls (.long (-x) :: st))) : Go p l e R s m args below meth c Z n0 Q kc ks h cs sl (mkF m pc Ls (.long x :: st)) := by
  subst hp
  exact go_step K fun T t a k => XS.lneg a C.1 rfl (hb C.2.1 hd) rfl k
theorem go_i2l (C : Ctx p s m meth c Z y bytes maxL ret) {x : Int32} (hd : decode bytes pc = .ok (.i2l, 1))  (hp : pc + 1 = pc') (K : Go p l e R s m args below meth c Z n0 Q kc ks h cs sl (mkF m pc' Ls (.long x.toInt64 :: st))) : Go p l e R s m args below meth c Z n0 Q kc ks h cs sl (mkF m pc Ls (.int x :: st)) := by
  subst hp
  exact go_step K fun T t a k => XS.i2l a C.1 rfl (hb C.2.1 hd) rfl k
theorem go_l2i (C : Ctx p s m meth c Z y bytes maxL ret) {x : Int64} (hd : decode bytes pc = .ok (.l2i, 1))  (hp : pc + 1 = pc') (K : Go p l e R s m args below meth c Z n0 Q kc ks h cs sl (mkF m pc' Ls (.int x.toInt32 :: st))) : Go p l e R s m args below meth c Z n0 Q kc ks h cs sl (mkF m pc Ls (.long x :: st)) := by
  subst hp
  exact go_step K fun T t a k => XS.l2i a C.1 rfl (hb C.2.1 hd) rfl k
theorem go_i2c (C : Ctx p s m meth c Z y bytes maxL ret) {x : Int32} (hd : decode bytes pc = .ok (.i2c, 1))  (hp : pc + 1 = pc') (K : Go p l e R s m args below meth c Z n0 Q kc ks h cs sl (mkF m pc' Ls (.int x.toUInt32.toUInt16.toUInt32.toInt32 :: st))) : Go p l e R s m args below meth c Z n0 Q kc ks h cs sl (mkF m pc Ls (.int x :: st)) := by
  subst hp
  exact go_step K fun T t a k => XS.i2c a C.1 rfl (hb C.2.1 hd) rfl k
theorem go_i2b (C : Ctx p s m meth c Z y bytes maxL ret) {x : Int32} (hd : decode bytes pc = .ok (.i2b, 1))  (hp : pc + 1 = pc') (K : Go p l e R s m args below meth c Z n0 Q kc ks h cs sl (mkF m pc' Ls (.int x.toInt8.toInt32 :: st))) : Go p l e R s m args below meth c Z n0 Q kc ks h cs sl (mkF m pc Ls (.int x :: st)) := by
  subst hp
  exact go_step K fun T t a k => XS.i2b a C.1 rfl (hb C.2.1 hd) rfl k
theorem go_dup (C : Ctx p s m meth c Z y bytes maxL ret) {v : Value} (hd : decode bytes pc = .ok (.dup, 1)) (hv : v.category = 1) (hp : pc + 1 = pc') (K : Go p l e R s m args below meth c Z n0 Q kc ks h cs sl (mkF m pc' Ls (v :: v :: st))) : Go p l e R s m args below meth c Z n0 Q kc ks h cs sl (mkF m pc Ls (v :: st)) := by
  subst hp
  exact go_step K fun T t a k => XS.dup a C.1 rfl (hb C.2.1 hd) rfl hv k
theorem go_dupX1 (C : Ctx p s m meth c Z y bytes maxL ret) {v w : Value} (hd : decode bytes pc = .ok (.dup_x1, 1)) (hv : v.category = 1) (hw : w.category = 1) (hp : pc + 1 = pc') (K : Go p l e R s m args below meth c Z n0 Q kc ks h cs sl (mkF m pc' Ls (v :: w :: v :: st))) : Go p l e R s m args below meth c Z n0 Q kc ks h cs sl (mkF m pc Ls (v :: w :: st)) := by
  subst hp
  exact go_step K fun T t a k => XS.dupX1 a C.1 rfl (hb C.2.1 hd) rfl hv hw k
theorem go_dup2 (C : Ctx p s m meth c Z y bytes maxL ret) {v w : Value} (hd : decode bytes pc = .ok (.dup2, 1)) (hv : v.category = 1) (hw : w.category = 1) (hp : pc + 1 = pc') (K : Go p l e R s m args below meth c Z n0 Q kc ks h cs sl (mkF m pc' Ls (v :: w :: v :: w :: st))) : Go p l e R s m args below meth c Z n0 Q kc ks h cs sl (mkF m pc Ls (v :: w :: st)) := by
  subst hp
  exact go_step K fun T t a k => XT.dup2 a C.1 rfl (hb C.2.1 hd) rfl hv hw k
theorem go_dup2L (C : Ctx p s m meth c Z y bytes maxL ret) {x : Int64} (hd : decode bytes pc = .ok (.dup2, 1))  (hp : pc + 1 = pc') (K : Go p l e R s m args below meth c Z n0 Q kc ks h cs sl (mkF m pc' Ls (.long x :: .long x :: st))) : Go p l e R s m args below meth c Z n0 Q kc ks h cs sl (mkF m pc Ls (.long x :: st)) := by
  subst hp
  exact go_step K fun T t a k => XT.dup2L a C.1 rfl (hb C.2.1 hd) rfl k
theorem go_pop (C : Ctx p s m meth c Z y bytes maxL ret) {v : Value} (hd : decode bytes pc = .ok (.pop, 1)) (hv : v.category = 1) (hp : pc + 1 = pc') (K : Go p l e R s m args below meth c Z n0 Q kc ks h cs sl (mkF m pc' Ls (st))) : Go p l e R s m args below meth c Z n0 Q kc ks h cs sl (mkF m pc Ls (v :: st)) := by
  subst hp
  exact go_step K fun T t a k => XS.pop a C.1 rfl (hb C.2.1 hd) rfl hv k
theorem go_goto (C : Ctx p s m meth c Z y bytes maxL ret)  {o : Int} (hd : decode bytes pc = .ok (.goto o, 3))  (ho : 0 ≤ (pc : Int) + o) (hp : ((pc : Int) + o).toNat = pc') (K : Go p l e R s m args below meth c Z n0 Q kc ks h cs sl (mkF m pc' Ls st)) : Go p l e R s m args below meth c Z n0 Q kc ks h cs sl (mkF m pc Ls (st)) :=
  go_step K fun T t a k => XS.goto a C.1 rfl rfl (hb C.2.1 hd) ho hp k
theorem go_ifYes (C : Ctx p s m meth c Z y bytes maxL ret) {cd : ClassFile.Cond} {x : Int32} {o : Int} (hd : decode bytes pc = .ok (.ifCond cd o, 3)) (hc : ifCond.holds cd x = true) (ho : 0 ≤ (pc : Int) + o) (hp : ((pc : Int) + o).toNat = pc') (K : Go p l e R s m args below meth c Z n0 Q kc ks h cs sl (mkF m pc' Ls st)) : Go p l e R s m args below meth c Z n0 Q kc ks h cs sl (mkF m pc Ls (.int x :: st)) :=
  go_step K fun T t a k => XS.ifYes a C.1 rfl rfl (hb C.2.1 hd) rfl hc ho hp k
theorem go_ifNo (C : Ctx p s m meth c Z y bytes maxL ret) {cd : ClassFile.Cond} {x : Int32} {o : Int} (hd : decode bytes pc = .ok (.ifCond cd o, 3)) (hc : ifCond.holds cd x = false) (hp : pc + 3 = pc') (K : Go p l e R s m args below meth c Z n0 Q kc ks h cs sl (mkF m pc' Ls st)) : Go p l e R s m args below meth c Z n0 Q kc ks h cs sl (mkF m pc Ls (.int x :: st)) := by
  subst hp
  exact go_step K fun T t a k => XS.ifNo a C.1 rfl (hb C.2.1 hd) rfl hc k
theorem go_icmpYes (C : Ctx p s m meth c Z y bytes maxL ret) {cd : ClassFile.Cond} {x y' : Int32} {o : Int} (hd : decode bytes pc = .ok (.if_icmp cd o, 3)) (hc : if_icmp.holds cd x y' = true) (ho : 0 ≤ (pc : Int) + o) (hp : ((pc : Int) + o).toNat = pc') (K : Go p l e R s m args below meth c Z n0 Q kc ks h cs sl (mkF m pc' Ls st)) : Go p l e R s m args below meth c Z n0 Q kc ks h cs sl (mkF m pc Ls (.int y' :: .int x :: st)) :=
  go_step K fun T t a k => XS.icmpYes a C.1 rfl rfl (hb C.2.1 hd) rfl hc ho hp k
theorem go_icmpNo (C : Ctx p s m meth c Z y bytes maxL ret) {cd : ClassFile.Cond} {x y' : Int32} {o : Int} (hd : decode bytes pc = .ok (.if_icmp cd o, 3)) (hc : if_icmp.holds cd x y' = false) (hp : pc + 3 = pc') (K : Go p l e R s m args below meth c Z n0 Q kc ks h cs sl (mkF m pc' Ls st)) : Go p l e R s m args below meth c Z n0 Q kc ks h cs sl (mkF m pc Ls (.int y' :: .int x :: st)) := by
  subst hp
  exact go_step K fun T t a k => XS.icmpNo a C.1 rfl (hb C.2.1 hd) rfl hc k
theorem go_ifnullYes (C : Ctx p s m meth c Z y bytes maxL ret)  {o : Int} (hd : decode bytes pc = .ok (.ifnull o, 3))  (ho : 0 ≤ (pc : Int) + o) (hp : ((pc : Int) + o).toNat = pc') (K : Go p l e R s m args below meth c Z n0 Q kc ks h cs sl (mkF m pc' Ls st)) : Go p l e R s m args below meth c Z n0 Q kc ks h cs sl (mkF m pc Ls (.null :: st)) :=
  go_step K fun T t a k => XS.ifnullYes a C.1 rfl rfl (hb C.2.1 hd) rfl ho hp k
theorem go_ifnullNo (C : Ctx p s m meth c Z y bytes maxL ret) {b : Addr} {o : Int} (hd : decode bytes pc = .ok (.ifnull o, 3))  (hp : pc + 3 = pc') (K : Go p l e R s m args below meth c Z n0 Q kc ks h cs sl (mkF m pc' Ls st)) : Go p l e R s m args below meth c Z n0 Q kc ks h cs sl (mkF m pc Ls (.ref b :: st)) := by
  subst hp
  exact go_step K fun T t a k => XS.ifnullNo a C.1 rfl (hb C.2.1 hd) rfl k
theorem go_ifnonnullYes (C : Ctx p s m meth c Z y bytes maxL ret) {b : Addr} {o : Int} (hd : decode bytes pc = .ok (.ifnonnull o, 3))  (ho : 0 ≤ (pc : Int) + o) (hp : ((pc : Int) + o).toNat = pc') (K : Go p l e R s m args below meth c Z n0 Q kc ks h cs sl (mkF m pc' Ls st)) : Go p l e R s m args below meth c Z n0 Q kc ks h cs sl (mkF m pc Ls (.ref b :: st)) :=
  go_step K fun T t a k => XS.ifnonnullYes a C.1 rfl rfl (hb C.2.1 hd) rfl ho hp k
theorem go_ifnonnullNo (C : Ctx p s m meth c Z y bytes maxL ret)  {o : Int} (hd : decode bytes pc = .ok (.ifnonnull o, 3))  (hp : pc + 3 = pc') (K : Go p l e R s m args below meth c Z n0 Q kc ks h cs sl (mkF m pc' Ls st)) : Go p l e R s m args below meth c Z n0 Q kc ks h cs sl (mkF m pc Ls (.null :: st)) := by
  subst hp
  exact go_step K fun T t a k => XS.ifnonnullNo a C.1 rfl (hb C.2.1 hd) rfl k
theorem go_acmpYes (C : Ctx p s m meth c Z y bytes maxL ret) {cd : ClassFile.ACond} {v w : Value} {o : Int} (hd : decode bytes pc = .ok (.if_acmp cd o, 3)) (hv : v.isRef = true) (hw : w.isRef = true) (hc : XT.acmp cd v w = true) (ho : 0 ≤ (pc : Int) + o) (hp : ((pc : Int) + o).toNat = pc') (K : Go p l e R s m args below meth c Z n0 Q kc ks h cs sl (mkF m pc' Ls st)) : Go p l e R s m args below meth c Z n0 Q kc ks h cs sl (mkF m pc Ls (w :: v :: st)) :=
  go_step K fun T t a k => XT.acmpYes a C.1 rfl rfl (hb C.2.1 hd) rfl hv hw hc ho hp k
theorem go_acmpNo (C : Ctx p s m meth c Z y bytes maxL ret) {cd : ClassFile.ACond} {v w : Value} {o : Int} (hd : decode bytes pc = .ok (.if_acmp cd o, 3)) (hv : v.isRef = true) (hw : w.isRef = true) (hc : XT.acmp cd v w = false) (hp : pc + 3 = pc') (K : Go p l e R s m args below meth c Z n0 Q kc ks h cs sl (mkF m pc' Ls st)) : Go p l e R s m args below meth c Z n0 Q kc ks h cs sl (mkF m pc Ls (w :: v :: st)) := by
  subst hp
  exact go_step K fun T t a k => XT.acmpNo a C.1 rfl (hb C.2.1 hd) rfl hv hw hc k
theorem go_tswIn (C : Ctx p s m meth c Z y bytes maxL ret) {dflt low high : Int} {offs : Array Int} {len : Nat} {o : Int} {i : Int32} (hd : decode bytes pc = .ok (.tableswitch dflt low high offs, len)) (hin : ¬ (i.toInt < low ∨ i.toInt > high)) (hoff : offs[(i.toInt - low).toNat]? = some o) (ho : 0 ≤ (pc : Int) + o) (hp : ((pc : Int) + o).toNat = pc') (K : Go p l e R s m args below meth c Z n0 Q kc ks h cs sl (mkF m pc' Ls st)) : Go p l e R s m args below meth c Z n0 Q kc ks h cs sl (mkF m pc Ls (.int i :: st)) :=
  go_step K fun T t a k => XS.tswIn a C.1 rfl rfl (hb C.2.1 hd) rfl hin hoff ho hp k
theorem go_ldcInt (C : Ctx p s m meth c Z y bytes maxL ret) {index : Nat} {v : Int32} (w : (Jvm.Cond.constant y.cls index v).before a0 Z = true) (hd : decode bytes pc = .ok (.ldc index, 2)) (hp : pc + 2 = pc') (K : Go p l e R s m args below meth c Z n0 Q kc ks h cs sl (mkF m pc' Ls (.int v :: st))) : Go p l e R s m args below meth c Z n0 Q kc ks h cs sl (mkF m pc Ls st) := by
  subst hp
  exact go_stepX K fun T t L X eT k => X.ldcInt C.1 C.2.2.2.2.2.2.1 (mvT C.2.2.2.2.2.1 w) (g := mkF m pc Ls st) rfl (hb C.2.1 hd) t k
theorem go_ldcwInt (C : Ctx p s m meth c Z y bytes maxL ret) {index : Nat} {v : Int32} (w : (Jvm.Cond.constant y.cls index v).before a0 Z = true) (hd : decode bytes pc = .ok (.ldc_w index, 3)) (hp : pc + 3 = pc') (K : Go p l e R s m args below meth c Z n0 Q kc ks h cs sl (mkF m pc' Ls (.int v :: st))) : Go p l e R s m args below meth c Z n0 Q kc ks h cs sl (mkF m pc Ls st) := by
  subst hp
  exact go_stepX K fun T t L X eT k => X.ldcwInt C.1 C.2.2.2.2.2.2.1 (mvT C.2.2.2.2.2.1 w) (g := mkF m pc Ls st) rfl (hb C.2.1 hd) t k
theorem go_ldcLong (C : Ctx p s m meth c Z y bytes maxL ret) {index : Nat} {v : Int64} (w : (Jvm.Cond.constantLong y.cls index v).before a0 Z = true) (hd : decode bytes pc = .ok (.ldc2_w index, 3)) (hp : pc + 3 = pc') (K : Go p l e R s m args below meth c Z n0 Q kc ks h cs sl (mkF m pc' Ls (.long v :: st))) : Go p l e R s m args below meth c Z n0 Q kc ks h cs sl (mkF m pc Ls st) := by
  subst hp
  exact go_stepX K fun T t L X eT k => X.ldc2Long C.1 C.2.2.2.2.2.2.1 (mvT C.2.2.2.2.2.1 w) (g := mkF m pc Ls st) rfl (hb C.2.1 hd) t k
theorem go_getF (C : Ctx p s m meth c Z y bytes maxL ret) {R0 O n d host : String} {index : Nat} {a : Addr} {v : Value} (w : (Jvm.Cond.fieldLink y.cls index R0 n d).before a0 Z = true ∨ (Jvm.Cond.fieldLinkNest y.cls index R0 n d host).before a0 Z = true) (via : Via Z R0 O n d) (F : Fld Z h a O n d v) (hd : decode bytes pc = .ok (.getfield index, 3)) (hp : pc + 3 = pc') (K : Go p l e R s m args below meth c Z n0 Q kc ks h cs sl (mkF m pc' Ls (v :: st))) : Go p l e R s m args below meth c Z n0 Q kc ks h cs sl (mkF m pc Ls (.ref a :: st)) := by
  subst hp
  exact go_stepT K fun T L X eT => getF X C.1 C.2.2.2.2.2.1 C.2.2.2.2.2.2.1 w via eT F (g := mkF m pc Ls (.ref a :: st)) rfl rfl (hb C.2.1 hd)
theorem go_getS (C : Ctx p s m meth c Z y bytes maxL ret) {R0 O n d host : String} {index : Nat} {v : Value} (w : (Jvm.Cond.fieldLink y.cls index R0 n d).before a0 Z = true ∨ (Jvm.Cond.fieldLinkNest y.cls index R0 n d host).before a0 Z = true) (via : Via Z R0 O n d) (F : Sta Z h O n d v) (hd : decode bytes pc = .ok (.getstatic index, 3)) (hp : pc + 3 = pc') (K : Go p l e R s m args below meth c Z n0 Q kc ks h cs sl (mkF m pc' Ls (v :: st))) : Go p l e R s m args below meth c Z n0 Q kc ks h cs sl (mkF m pc Ls st) := by
  subst hp
  exact go_stepT K fun T L X eT => getS2 X C.1 C.2.2.2.2.2.1 C.2.2.2.2.2.2.1 w via eT F (g := mkF m pc Ls st) rfl (hb C.2.1 hd)
theorem go_putF (C : Ctx p s m meth c Z y bytes maxL ret) {R0 O n d host K0 : String} {index kk : Nat} {ty : FieldType} {a : Addr} {v old : Value} (w : (Jvm.Cond.fieldLink y.cls index R0 n d).before a0 Z = true ∨ (Jvm.Cond.fieldLinkNest y.cls index R0 n d host).before a0 Z = true) (via : Via Z R0 O n d) (F : Fld Z h a O n d old) (E : Exa Z h a K0) (L : (Jvm.Cond.lays K0 O n d).before a0 Z = true ∨ ((Jvm.Cond.laysFinal K0 O n d).before a0 Z = true ∧ y.cls = O ∧ y.name = "<init>")) (wi : (Jvm.Cond.instantiable K0 kk).before a0 Z = true)
    (hty : parseFieldDescriptor d = some ty) (hn : narrow ty v = v) (hf : fits ty v = true) (hd : decode bytes pc = .ok (.putfield index, 3)) (hp : pc + 3 = pc') (ha : n0 ≤ a) (K : ∀ h', Wr h h' a (Jvm.RoadKit.slotOf Z O n d) v → Fld Z h' a O n d v → Go p l e R s m args below meth c Z n0 Q kc ks h' cs sl (mkF m pc' Ls st)) : Go p l e R s m args below meth c Z n0 Q kc ks h cs sl (mkF m pc Ls (v :: .ref a :: st)) := fun T L0 hL O X eT => by
  subst hp
  obtain ⟨T', h', X', e', W, hs⟩ := putF X C.1 C.2.2.2.2.2.1 C.2.2.2.2.2.2.1 w via eT F E (L.imp id fun q => ⟨q.1, q.2.1, C.2.2.2.2.2.2.2.trans q.2.2⟩) wi hty hn hf (g := mkF m pc Ls (v :: .ref a :: st)) rfl rfl (hb C.2.1 hd)
  obtain ⟨U, v, L', h1, r⟩ := K h' W (F.same W) T' _ (Fr.snoc X' hL ha) (O.wr W ha) X' e'
  exact ⟨U, v, L', hs U h1, r⟩
theorem go_putFN (C : Ctx p s m meth c Z y bytes maxL ret) {R0 O n d K0 : String} {index kk : Nat} {ty : FieldType} {a : Addr} {v v' old : Value} (w : (Jvm.Cond.fieldLink y.cls index R0 n d).before a0 Z = true) (via : Via Z R0 O n d) (F : Fld Z h a O n d old) (E : Exa Z h a K0) (L : (Jvm.Cond.lays K0 O n d).before a0 Z = true ∨ ((Jvm.Cond.laysFinal K0 O n d).before a0 Z = true ∧ y.cls = O ∧ y.name = "<init>")) (wi : (Jvm.Cond.instantiable K0 kk).before a0 Z = true)
    (hty : parseFieldDescriptor d = some ty) (hn : narrow ty v = v') (hf : fits ty v' = true) (hd : decode bytes pc = .ok (.putfield index, 3)) (hp : pc + 3 = pc') (ha : n0 ≤ a) (K : ∀ h', Wr h h' a (Jvm.RoadKit.slotOf Z O n d) v' → Fld Z h' a O n d v' → Go p l e R s m args below meth c Z n0 Q kc ks h' cs sl (mkF m pc' Ls st)) : Go p l e R s m args below meth c Z n0 Q kc ks h cs sl (mkF m pc Ls (v :: .ref a :: st)) := fun T L0 hL O X eT => by
  subst hp
  obtain ⟨T', h', X', e', W, hs⟩ := putFN X C.1 C.2.2.2.2.2.1 C.2.2.2.2.2.2.1 w via eT F E (L.imp id fun q => ⟨q.1, q.2.1, C.2.2.2.2.2.2.2.trans q.2.2⟩) wi hty hn hf (g := mkF m pc Ls (v :: .ref a :: st)) rfl rfl (hb C.2.1 hd)
  obtain ⟨U, v, L', h1, r⟩ := K h' W (F.same W) T' _ (Fr.snoc X' hL ha) (O.wr W ha) X' e'
  exact ⟨U, v, L', hs U h1, r⟩
theorem go_new (C : Ctx p s m meth c Z y bytes maxL ret) {K0 : String} {index n : Nat} (w : (Jvm.Cond.classLink y.cls index K0).before a0 Z = true) (wi : (Jvm.Cond.instantiable K0 n).before a0 Z = true) (wz : (Jvm.Cond.initialized K0).before a0 Z = true) (hd : decode bytes pc = .ok (.new index, 3)) (hp : pc + 3 = pc') (hc : cs + 1 ≤ R.cells) (hl : sl + n ≤ R.slots)
    (K : ∀ h' a, a = h.size → n0 ≤ a → Ext h h' → Exa Z h' a K0 → (∀ {O nm d : String} {ty : FieldType}, Laid Z a0 K0 O nm d → parseFieldDescriptor d = some ty → Fld Z h' a O nm d (defaultValue ty)) → Go p l e R s m args below meth c Z n0 Q kc ks h' (cs + 1) (sl + n) (mkF m pc' Ls (.ref a :: st))) : Go p l e R s m args below meth c Z n0 Q kc ks h cs sl (mkF m pc Ls st) := fun T L0 hL O X eT => by
  subst hp
  obtain ⟨T', h', X', e', E, A, D, -, hs⟩ := newO X C.1 C.2.2.2.2.2.1 C.2.2.2.2.2.2.1 w wi wz eT (g := mkF m pc Ls st) rfl (hb C.2.1 hd) hc hl
  obtain ⟨U, v, L', h1, r⟩ := K h' h.size rfl (O.1 ▸ O.2.1) E A D T' _ hL (O.ext E) X' e'
  exact ⟨U, v, L', hs U h1, r⟩
theorem go_newP (C : Ctx p s m meth c Z y bytes maxL ret) {aty : ArrayType} {n : Int32} {cap : Nat} (w : (Jvm.Cond.arrayClass (newarray.typeOf aty)).before a0 Z = true) (hd : decode bytes pc = .ok (.newarray aty, 2)) (hp : pc + 2 = pc') (hn : ¬ n < 0) (hcap : n.toNatClampNeg ≤ cap) (hb' : cap * 8 ≤ 536870912) (hc : cs + 1 ≤ R.cells) (hl : sl + cap ≤ R.slots)
    (K : ∀ h' a k, a = h.size → n0 ≤ a → Ext h h' → Arr Z h' a (newA k (newarray.typeOf aty) n) (newarray.typeOf aty) → Go p l e R s m args below meth c Z n0 Q kc ks h' (cs + 1) (sl + cap) (mkF m pc' Ls (.ref a :: st))) : Go p l e R s m args below meth c Z n0 Q kc ks h cs sl (mkF m pc Ls (.int n :: st)) := fun T L0 hL O X eT => by
  subst hp
  obtain ⟨T', h', k, X', e', E, A, hs⟩ := newP X C.1 C.2.2.2.2.2.1 w eT (g := mkF m pc Ls (.int n :: st)) rfl (hb C.2.1 hd) rfl hn hcap hb' hc hl
  obtain ⟨U, v, L', h1, r⟩ := K h' h.size k rfl (O.1 ▸ O.2.1) E A T' _ hL (O.ext E) X' e'
  exact ⟨U, v, L', hs U h1, r⟩
theorem go_newR (C : Ctx p s m meth c Z y bytes maxL ret) {K0 : String} {index : Nat} {n : Int32} {cap : Nat} (w1 : (Jvm.Cond.classLink y.cls index K0).before a0 Z = true) (w2 : (Jvm.Cond.arrayOver (.object K0)).before a0 Z = true) (hd : decode bytes pc = .ok (.anewarray index, 3)) (hp : pc + 3 = pc') (hn : ¬ n < 0) (hcap : n.toNatClampNeg ≤ cap) (hb' : cap * 8 ≤ 536870912) (hc : cs + 1 ≤ R.cells) (hl : sl + cap ≤ R.slots)
    (K : ∀ h' a k, a = h.size → n0 ≤ a → Ext h h' → Arr Z h' a (newA k (.object K0) n) (.object K0) → Ovr Z k K0 → Go p l e R s m args below meth c Z n0 Q kc ks h' (cs + 1) (sl + cap) (mkF m pc' Ls (.ref a :: st))) : Go p l e R s m args below meth c Z n0 Q kc ks h cs sl (mkF m pc Ls (.int n :: st)) := fun T L0 hL O X eT => by
  subst hp
  obtain ⟨T', h', k, X', e', E, A, V, hs⟩ := newR X C.1 C.2.2.2.2.2.1 C.2.2.2.2.2.2.1 w1 w2 eT (g := mkF m pc Ls (.int n :: st)) rfl (hb C.2.1 hd) rfl hn hcap hb' hc hl
  obtain ⟨U, v, L', h1, r⟩ := K h' h.size k rfl (O.1 ▸ O.2.1) E A V T' _ hL (O.ext E) X' e'
  exact ⟨U, v, L', hs U h1, r⟩
theorem go_stI (C : Ctx p s m meth c Z y bytes maxL ret) {a : Addr} {cl : Cell} {j : Int32} {x : Int32} (A : Arr Z h a cl .int) (hj : ¬ (j < 0 ∨ cl.slots.size ≤ j.toNatClampNeg)) (hd : decode bytes pc = .ok (.iastore, 1)) (hp : pc + 1 = pc') (ha : n0 ≤ a)
    (K : ∀ h', Wr h h' a j.toNatClampNeg (.int x) → Arr Z h' a (cl.setSlot j.toNatClampNeg (.int x)) .int → Go p l e R s m args below meth c Z n0 Q kc ks h' cs sl (mkF m pc' Ls st)) : Go p l e R s m args below meth c Z n0 Q kc ks h cs sl (mkF m pc Ls (.int x :: .int j :: .ref a :: st)) := fun T L0 hL O X eT => by
  subst hp
  obtain ⟨T', h', X', e', W, hs⟩ := stI X C.1 C.2.2.2.2.2.1 eT A hj (g := mkF m pc Ls (.int x :: .int j :: .ref a :: st)) rfl rfl (hb C.2.1 hd)
  obtain ⟨U, v, L', h1, r⟩ := K h' W (A.same W) T' _ (Fr.snoc X' hL ha) (O.wr W ha) X' e'
  exact ⟨U, v, L', hs U h1, r⟩
theorem go_stJ (C : Ctx p s m meth c Z y bytes maxL ret) {a : Addr} {cl : Cell} {j : Int32} {x : Int64} (A : Arr Z h a cl .long) (hj : ¬ (j < 0 ∨ cl.slots.size ≤ j.toNatClampNeg)) (hd : decode bytes pc = .ok (.lastore, 1)) (hp : pc + 1 = pc') (ha : n0 ≤ a)
    (K : ∀ h', Wr h h' a j.toNatClampNeg (.long x) → Arr Z h' a (cl.setSlot j.toNatClampNeg (.long x)) .long → Go p l e R s m args below meth c Z n0 Q kc ks h' cs sl (mkF m pc' Ls st)) : Go p l e R s m args below meth c Z n0 Q kc ks h cs sl (mkF m pc Ls (.long x :: .int j :: .ref a :: st)) := fun T L0 hL O X eT => by
  subst hp
  obtain ⟨T', h', X', e', W, hs⟩ := stJ X C.1 C.2.2.2.2.2.1 eT A hj (g := mkF m pc Ls (.long x :: .int j :: .ref a :: st)) rfl rfl (hb C.2.1 hd)
  obtain ⟨U, v, L', h1, r⟩ := K h' W (A.same W) T' _ (Fr.snoc X' hL ha) (O.wr W ha) X' e'
  exact ⟨U, v, L', hs U h1, r⟩
theorem go_stC (C : Ctx p s m meth c Z y bytes maxL ret) {a : Addr} {cl : Cell} {j : Int32} {x : Int32} (A : Arr Z h a cl .char) (hj : ¬ (j < 0 ∨ cl.slots.size ≤ j.toNatClampNeg)) (hd : decode bytes pc = .ok (.castore, 1)) (hp : pc + 1 = pc') (ha : n0 ≤ a)
    (K : ∀ h', Wr h h' a j.toNatClampNeg (.int (nar .char x)) → Arr Z h' a (cl.setSlot j.toNatClampNeg (.int (nar .char x))) .char → Go p l e R s m args below meth c Z n0 Q kc ks h' cs sl (mkF m pc' Ls st)) : Go p l e R s m args below meth c Z n0 Q kc ks h cs sl (mkF m pc Ls (.int x :: .int j :: .ref a :: st)) := fun T L0 hL O X eT => by
  subst hp
  obtain ⟨T', h', X', e', W, hs⟩ := stC X C.1 C.2.2.2.2.2.1 eT A hj (g := mkF m pc Ls (.int x :: .int j :: .ref a :: st)) rfl rfl (hb C.2.1 hd)
  obtain ⟨U, v, L', h1, r⟩ := K h' W (A.same W) T' _ (Fr.snoc X' hL ha) (O.wr W ha) X' e'
  exact ⟨U, v, L', hs U h1, r⟩
theorem go_stB (C : Ctx p s m meth c Z y bytes maxL ret) {a : Addr} {cl : Cell} {j : Int32} {x : Int32} (A : Arr Z h a cl .byte) (hj : ¬ (j < 0 ∨ cl.slots.size ≤ j.toNatClampNeg)) (hd : decode bytes pc = .ok (.bastore, 1)) (hp : pc + 1 = pc') (ha : n0 ≤ a)
    (K : ∀ h', Wr h h' a j.toNatClampNeg (.int (nar .byte x)) → Arr Z h' a (cl.setSlot j.toNatClampNeg (.int (nar .byte x))) .byte → Go p l e R s m args below meth c Z n0 Q kc ks h' cs sl (mkF m pc' Ls st)) : Go p l e R s m args below meth c Z n0 Q kc ks h cs sl (mkF m pc Ls (.int x :: .int j :: .ref a :: st)) := fun T L0 hL O X eT => by
  subst hp
  obtain ⟨T', h', X', e', W, hs⟩ := stB X C.1 C.2.2.2.2.2.1 eT A hj (g := mkF m pc Ls (.int x :: .int j :: .ref a :: st)) rfl rfl (hb C.2.1 hd)
  obtain ⟨U, v, L', h1, r⟩ := K h' W (A.same W) T' _ (Fr.snoc X' hL ha) (O.wr W ha) X' e'
  exact ⟨U, v, L', hs U h1, r⟩
theorem go_stZ (C : Ctx p s m meth c Z y bytes maxL ret) {a : Addr} {cl : Cell} {j : Int32} {x : Int32} (A : Arr Z h a cl .boolean) (hj : ¬ (j < 0 ∨ cl.slots.size ≤ j.toNatClampNeg)) (hd : decode bytes pc = .ok (.bastore, 1)) (hp : pc + 1 = pc') (ha : n0 ≤ a)
    (K : ∀ h', Wr h h' a j.toNatClampNeg (.int (nar .boolean x)) → Arr Z h' a (cl.setSlot j.toNatClampNeg (.int (nar .boolean x))) .boolean → Go p l e R s m args below meth c Z n0 Q kc ks h' cs sl (mkF m pc' Ls st)) : Go p l e R s m args below meth c Z n0 Q kc ks h cs sl (mkF m pc Ls (.int x :: .int j :: .ref a :: st)) := fun T L0 hL O X eT => by
  subst hp
  obtain ⟨T', h', X', e', W, hs⟩ := stZ X C.1 C.2.2.2.2.2.1 eT A hj (g := mkF m pc Ls (.int x :: .int j :: .ref a :: st)) rfl rfl (hb C.2.1 hd)
  obtain ⟨U, v, L', h1, r⟩ := K h' W (A.same W) T' _ (Fr.snoc X' hL ha) (O.wr W ha) X' e'
  exact ⟨U, v, L', hs U h1, r⟩
theorem go_stR (C : Ctx p s m meth c Z y bytes maxL ret) {a : Addr} {cl : Cell} {j : Int32} {ty : FieldType} {w : Value} (A : Arr Z h a cl ty) (hj : ¬ (j < 0 ∨ cl.slots.size ≤ j.toNatClampNeg)) (hty : ty.isReference = true) (F : Sto Z h a w) (hd : decode bytes pc = .ok (.aastore, 1)) (hp : pc + 1 = pc') (ha : n0 ≤ a)
    (K : ∀ h', Wr h h' a j.toNatClampNeg w → Arr Z h' a (cl.setSlot j.toNatClampNeg w) ty → Go p l e R s m args below meth c Z n0 Q kc ks h' cs sl (mkF m pc' Ls st)) : Go p l e R s m args below meth c Z n0 Q kc ks h cs sl (mkF m pc Ls (w :: .int j :: .ref a :: st)) := fun T L0 hL O X eT => by
  subst hp
  obtain ⟨T', h', X', e', W, hs⟩ := stR X C.1 C.2.2.2.2.2.1 eT A hj hty F (g := mkF m pc Ls (w :: .int j :: .ref a :: st)) rfl rfl (hb C.2.1 hd)
  obtain ⟨U, v, L', h1, r⟩ := K h' W (A.same W) T' _ (Fr.snoc X' hL ha) (O.wr W ha) X' e'
  exact ⟨U, v, L', hs U h1, r⟩
theorem go_arraylength (C : Ctx p s m meth c Z y bytes maxL ret) {a : Addr} {cl : Cell} {ty : FieldType} {z : Int32} (A : Arr Z h a cl ty) (hz : cl.slots.size.toInt32 = z) (hd : decode bytes pc = .ok (.arraylength, 1)) (hp : pc + 1 = pc') (K : Go p l e R s m args below meth c Z n0 Q kc ks h cs sl (mkF m pc' Ls (.int z :: st))) : Go p l e R s m args below meth c Z n0 Q kc ks h cs sl (mkF m pc Ls (.ref a :: st)) := by
  subst hp hz
  exact go_stepX K fun T t L X eT k => X.arraylength C.1 (by rw [eT]; exact A.1) (State.isArrayOf_alike C.2.2.2.2.2.1.alike A.2.1) (g := mkF m pc Ls (.ref a :: st)) rfl rfl (hb C.2.1 hd) t k
theorem go_aaload (C : Ctx p s m meth c Z y bytes maxL ret) {a : Addr} {cl : Cell} {j : Int32} {v : Value} {ty : FieldType} (A : Arr Z h a cl ty) (hty : ty.isReference = true) (hin : ¬ (j < 0 ∨ cl.slots.size ≤ j.toNatClampNeg)) (hv : cl.slots[j.toNatClampNeg]? = some v) (hd : decode bytes pc = .ok (.aaload, 1)) (hp : pc + 1 = pc') (K : Go p l e R s m args below meth c Z n0 Q kc ks h cs sl (mkF m pc' Ls (v :: st))) : Go p l e R s m args below meth c Z n0 Q kc ks h cs sl (mkF m pc Ls (.int j :: .ref a :: st)) := by
  subst hp
  exact go_stepX K fun T t L X eT k => X.aaload C.1 (by rw [eT]; exact A.1) (State.isArrayOf_alike C.2.2.2.2.2.1.alike A.2.1) hty A.2.2 hin hv (g := mkF m pc Ls (.int j :: .ref a :: st)) rfl rfl (hb C.2.1 hd) t k
theorem go_iaload (C : Ctx p s m meth c Z y bytes maxL ret) {a : Addr} {cl : Cell} {j : Int32} {v : Value} (A : Arr Z h a cl .int) (hin : ¬ (j < 0 ∨ cl.slots.size ≤ j.toNatClampNeg)) (hv : cl.slots[j.toNatClampNeg]? = some v) (hd : decode bytes pc = .ok (.iaload, 1)) (hp : pc + 1 = pc') (K : Go p l e R s m args below meth c Z n0 Q kc ks h cs sl (mkF m pc' Ls (v :: st))) : Go p l e R s m args below meth c Z n0 Q kc ks h cs sl (mkF m pc Ls (.int j :: .ref a :: st)) := by
  subst hp
  exact go_stepX K fun T t L X eT k => X.iaload C.1 (by rw [eT]; exact A.1) (State.isArrayOf_alike C.2.2.2.2.2.1.alike A.2.1) A.2.2 hin hv (g := mkF m pc Ls (.int j :: .ref a :: st)) rfl rfl (hb C.2.1 hd) t k
theorem go_laload (C : Ctx p s m meth c Z y bytes maxL ret) {a : Addr} {cl : Cell} {j : Int32} {v : Value} (A : Arr Z h a cl .long) (hin : ¬ (j < 0 ∨ cl.slots.size ≤ j.toNatClampNeg)) (hv : cl.slots[j.toNatClampNeg]? = some v) (hd : decode bytes pc = .ok (.laload, 1)) (hp : pc + 1 = pc') (K : Go p l e R s m args below meth c Z n0 Q kc ks h cs sl (mkF m pc' Ls (v :: st))) : Go p l e R s m args below meth c Z n0 Q kc ks h cs sl (mkF m pc Ls (.int j :: .ref a :: st)) := by
  subst hp
  exact go_stepX K fun T t L X eT k => X.laload C.1 (by rw [eT]; exact A.1) (State.isArrayOf_alike C.2.2.2.2.2.1.alike A.2.1) A.2.2 hin hv (g := mkF m pc Ls (.int j :: .ref a :: st)) rfl rfl (hb C.2.1 hd) t k
theorem go_caload (C : Ctx p s m meth c Z y bytes maxL ret) {a : Addr} {cl : Cell} {j : Int32} {v : Value} (A : Arr Z h a cl .char) (hin : ¬ (j < 0 ∨ cl.slots.size ≤ j.toNatClampNeg)) (hv : cl.slots[j.toNatClampNeg]? = some v) (hd : decode bytes pc = .ok (.caload, 1)) (hp : pc + 1 = pc') (K : Go p l e R s m args below meth c Z n0 Q kc ks h cs sl (mkF m pc' Ls (v :: st))) : Go p l e R s m args below meth c Z n0 Q kc ks h cs sl (mkF m pc Ls (.int j :: .ref a :: st)) := by
  subst hp
  exact go_stepX K fun T t L X eT k => X.caload C.1 (by rw [eT]; exact A.1) (State.isArrayOf_alike C.2.2.2.2.2.1.alike A.2.1) A.2.2 hin hv (g := mkF m pc Ls (.int j :: .ref a :: st)) rfl rfl (hb C.2.1 hd) t k
theorem go_castY (C : Ctx p s m meth c Z y bytes maxL ret) {K0 : String} {index : Nat} {a : Addr} (w : (Jvm.Cond.classLink y.cls index K0).before a0 Z = true) (F : Ins Z h a K0 true) (hd : decode bytes pc = .ok (.checkcast index, 3)) (hp : pc + 3 = pc') (K : Go p l e R s m args below meth c Z n0 Q kc ks h cs sl (mkF m pc' Ls (.ref a :: st))) : Go p l e R s m args below meth c Z n0 Q kc ks h cs sl (mkF m pc Ls (.ref a :: st)) := by
  subst hp
  exact go_stepT K fun T L X eT => castY X C.1 C.2.2.2.2.2.1 C.2.2.2.2.2.2.1 w eT F (g := mkF m pc Ls (.ref a :: st)) rfl rfl (hb C.2.1 hd)
theorem go_castNull (C : Ctx p s m meth c Z y bytes maxL ret) {index : Nat} (hd : decode bytes pc = .ok (.checkcast index, 3)) (hp : pc + 3 = pc') (K : Go p l e R s m args below meth c Z n0 Q kc ks h cs sl (mkF m pc' Ls (.null :: st))) : Go p l e R s m args below meth c Z n0 Q kc ks h cs sl (mkF m pc Ls (.null :: st)) := by
  subst hp
  exact go_stepX K fun T t L X eT k => X.checkcastNull C.1 (g := mkF m pc Ls (.null :: st)) rfl rfl (hb C.2.1 hd) t k
theorem go_instY (C : Ctx p s m meth c Z y bytes maxL ret) {K0 : String} {index : Nat} {a : Addr} (w : (Jvm.Cond.classLink y.cls index K0).before a0 Z = true) (F : Ins Z h a K0 true) (hd : decode bytes pc = .ok (.instanceof index, 3)) (hp : pc + 3 = pc') (K : Go p l e R s m args below meth c Z n0 Q kc ks h cs sl (mkF m pc' Ls (.int 1 :: st))) : Go p l e R s m args below meth c Z n0 Q kc ks h cs sl (mkF m pc Ls (.ref a :: st)) := by
  subst hp
  exact go_stepT K fun T L X eT => instY X C.1 C.2.2.2.2.2.1 C.2.2.2.2.2.2.1 w eT F (g := mkF m pc Ls (.ref a :: st)) rfl rfl (hb C.2.1 hd)
theorem go_instNo (C : Ctx p s m meth c Z y bytes maxL ret) {K0 K1 : String} {index : Nat} {a : Addr} (w : (Jvm.Cond.classLink y.cls index K0).before a0 Z = true) (E : Exa Z h a K1) (F : ∃ c t, Z.vm.findClass K1 = some c ∧ Z.vm.findClass K0 = some t ∧ Z.vm.assignable c t = false) (hd : decode bytes pc = .ok (.instanceof index, 3)) (hp : pc + 3 = pc') (K : Go p l e R s m args below meth c Z n0 Q kc ks h cs sl (mkF m pc' Ls (.int 0 :: st))) : Go p l e R s m args below meth c Z n0 Q kc ks h cs sl (mkF m pc Ls (.ref a :: st)) := by
  subst hp
  exact go_stepT K fun T L X eT => instNo X C.1 C.2.2.2.2.2.1 C.2.2.2.2.2.2.1 w eT E F (g := mkF m pc Ls (.ref a :: st)) rfl rfl (hb C.2.1 hd)
theorem go_initO (C : Ctx p s m meth c Z y bytes maxL ret) {idx : Nat} {a : Addr} (w1 : (Jvm.Cond.methodLink y.cls idx Lib.objectInit).before a0 Z = true) (w2 : (Jvm.Cond.instanceMethod Lib.objectInit).before a0 Z = true) (w3 : (Jvm.Cond.code Lib.objectInit ⟨#[0xb1]⟩ 1 none).before a0 Z = true) (hsz : Ls.size = maxL) (hd : decode bytes pc = .ok (.invokespecial idx, 3)) (hp : pc + 3 = pc') (hf : 1 ≤ R.frames) (hl : (st.map fun v => v.category).sum + 12 ≤ R.locals) (K : Go p l e R s m args below meth c Z n0 Q kc ks h cs sl (mkF m pc' Ls st)) : Go p l e R s m args below meth c Z n0 Q kc ks h cs sl (mkF m pc Ls (.ref a :: st)) := by
  subst hp
  exact go_stepT K fun T L X eT => initO X C.1 C.2.2.2.2.2.1 C.2.2.2.2.2.2.1 w1 w2 w3 eT (g := mkF m pc Ls (.ref a :: st)) rfl (hsz.trans C.2.2.1.symm) rfl (hb C.2.1 hd) hf (W := (st.map fun v => v.category).sum) (by show 2 * 0 + _ ≤ _; omega) hl
theorem go_ret0 (C : Ctx p s m meth c Z y bytes maxL none) (hd : decode bytes pc = .ok (.return_, 1)) (hc : cs ≤ kc) (hs : sl ≤ ks) (q : Q none h) : Go p l e R s m args below meth c Z n0 Q kc ks h cs sl (mkF m pc Ls []) := fun T L hL O X eT => by
  obtain ⟨fs, hr, hrun, hended, hW, hsame⟩ := X.leave (v := none) (fun _ => rfl) C.2.2.2.2.1
  subst eT
  exact ⟨_, _, L, X.returnOut C.1 C.2.2.2.1 (hb C.2.1 hd) hr, hrun, hended, hL, O, hW, hsame.mono hc hs, q⟩
theorem go_retI (C : Ctx p s m meth c Z y bytes maxL (some .int)) {z : Int32} (hd : decode bytes pc = .ok (.ireturn, 1)) (hc : cs ≤ kc) (hs : sl ≤ ks) (q : Q (some (.int z)) h) : Go p l e R s m args below meth c Z n0 Q kc ks h cs sl (mkF m pc Ls (.int z :: st)) := fun T L hL O X eT => by
  obtain ⟨fs, hr, hrun, hended, hW, hsame⟩ := X.leave (v := some (.int z)) (fun h => by rw [C.2.2.2.1] at h; cases h) C.2.2.2.2.1
  subst eT
  exact ⟨_, _, L, retOut X C.1 C.2.2.2.1 rfl (Or.inl ⟨rfl, Or.inl rfl, _, rfl⟩) (hb C.2.1 hd) hr, hrun, hended, hL, O, hW, hsame.mono hc hs, q⟩
theorem go_retL (C : Ctx p s m meth c Z y bytes maxL (some .long)) {z : Int64} (hd : decode bytes pc = .ok (.lreturn, 1)) (hc : cs ≤ kc) (hs : sl ≤ ks) (q : Q (some (.long z)) h) : Go p l e R s m args below meth c Z n0 Q kc ks h cs sl (mkF m pc Ls (.long z :: st)) := fun T L hL O X eT => by
  obtain ⟨fs, hr, hrun, hended, hW, hsame⟩ := X.leave (v := some (.long z)) (fun h => by rw [C.2.2.2.1] at h; cases h) C.2.2.2.2.1
  subst eT
  exact ⟨_, _, L, retOut X C.1 C.2.2.2.1 rfl (Or.inr (Or.inl ⟨rfl, rfl, _, rfl⟩)) (hb C.2.1 hd) hr, hrun, hended, hL, O, hW, hsame.mono hc hs, q⟩
theorem go_retN {t : FieldType} (C : Ctx p s m meth c Z y bytes maxL (some t)) {z z' : Int32} (ht : t = .boolean ∨ t = .byte ∨ t = .char ∨ t = .short) (hz : nar t z = z') (hd : decode bytes pc = .ok (.ireturn, 1)) (hc : cs ≤ kc) (hs : sl ≤ ks) (q : Q (some (.int z')) h) : Go p l e R s m args below meth c Z n0 Q kc ks h cs sl (mkF m pc Ls (.int z :: st)) := fun T L hL O X eT => by
  subst hz
  obtain ⟨fs, hr, hrun, hended, hW, hsame⟩ := X.leave (v := some (.int (nar t z))) (fun h => by rw [C.2.2.2.1] at h; cases h) C.2.2.2.2.1
  subst eT
  exact ⟨_, _, L, retN X C.1 C.2.2.2.1 ht (hb C.2.1 hd) hr, hrun, hended, hL, O, hW, hsame.mono hc hs, q⟩
theorem go_retA {t : FieldType} (C : Ctx p s m meth c Z y bytes maxL (some t)) {w : Value} (ht : t.isReference = true) (hw : w.isRef = true) (hd : decode bytes pc = .ok (.areturn, 1)) (hc : cs ≤ kc) (hs : sl ≤ ks) (q : Q (some w) h) : Go p l e R s m args below meth c Z n0 Q kc ks h cs sl (mkF m pc Ls (w :: st)) := fun T L hL O X eT => by
  obtain ⟨fs, hr, hrun, hended, hW, hsame⟩ := X.leave (v := some w) (fun h => by rw [C.2.2.2.1] at h; cases h) C.2.2.2.2.1
  subst eT
  exact ⟨_, _, L, retOut X C.1 C.2.2.2.1 (by cases t <;> first | (cases ht; done) | (cases w <;> first | rfl | cases hw)) (Or.inr (Or.inr (Or.inr (Or.inr ⟨rfl, ht, hw⟩)))) (hb C.2.1 hd) hr, hrun, hended, hL, O, hW, hsame.mono hc hs, q⟩
theorem go_callS (C : Ctx p s m meth c Z y bytes maxL ret) {y' : MethodName} {bytes' : ByteArray} {maxL' : Nat} {ret' : Option FieldType} {rm' : Room} {as' : Array Value} {Q' : Option Value → Heap → Prop} {index W : Nat} {argsL rest : List Value} {ps : List FieldType} {r' : Option FieldType} (w1 : (Jvm.Cond.methodLink y.cls index y').before a0 Z = true) (w2 : (Jvm.Cond.static y').before a0 Z = true) (M : Met l Z n0 y' bytes' maxL' ret' [] rm' as' h Q') (wc : (Jvm.Cond.code y' bytes' maxL' ret').before a0 Z = true) (wz : (Jvm.Cond.initialized y'.cls).before a0 Z = true) (hy : y'.cls ≠ "java/lang/invoke/MethodHandle" ∧ y'.cls ≠ "java/lang/invoke/VarHandle") (hf : rm'.frames + 1 ≤ R.frames) (hW : (rest.map fun v => v.category).sum ≤ W) (hl : W + (maxL' + 11) + rm'.locals ≤ R.locals) (hc : cs + rm'.cells ≤ R.cells) (hs : sl + rm'.slots ≤ R.slots) (hsz : Ls.size = maxL)  (hlen : parseMethodDescriptor y'.desc = some ⟨ps, r'⟩) (hal : argsL.length = ps.length) (hst : st = argsL.reverse ++ rest) (has : as' = argsL.toArray) (hd : decode bytes pc = .ok (.invokestatic index, 3)) (hp : pc + 3 = pc')
    (K : ∀ v h', Q' v h' → Go p l e R s m args below meth c Z n0 Q kc ks h' (cs + rm'.cells) (sl + rm'.slots) (mkF m pc' Ls (v.toList ++ rest))) : Go p l e R s m args below meth c Z n0 Q kc ks h cs sl (mkF m pc Ls st) := fun T L0 hL O X eT => by
  subst hp has hst
  obtain ⟨v, _, ⟨T1, L1, k1, n1⟩, -, X1, ⟨Lc1, q1, l1, y1, z1⟩, s1⟩ := Jvm.LawKit.callS X C.1 (y := y') C.2.2.2.2.2.2.1 (mvT C.2.2.2.2.2.1 w1) (mvT C.2.2.2.2.2.1 w2) (mvT C.2.2.2.2.2.1 wz) (mvT C.2.2.2.2.2.1 wc) hy (backOf (W := W) (R := R) (p := p) (e := e) (below := below) (args := args) (len := 3) (Q := fun v h L => Fr n0 L ∧ Old Z n0 h ∧ Q' v h) M C.2.2.2.2.2.1 wc wz hf hl) (g := mkF m pc Ls (argsL.reverse ++ rest)) rfl (hsz.trans C.2.2.1.symm) (argsL := argsL) (rest := rest) (lenOf hlen hal) rfl (by show 2 * 0 + _ ≤ _; omega) (hb C.2.1 hd) (fun _ _ => ⟨rfl, eT, hc, hs⟩)
  dsimp only [Pt.U, Pt.locs, Pt.cells, Pt.slots] at X1 l1 y1 z1 s1 q1
  subst l1 y1 z1
  obtain ⟨N, O', q⟩ := q1
  obtain ⟨U, w, L', h1, r⟩ := K v _ q T1 _ (Fr.app hL N) O' X1 rfl
  exact ⟨U, w, L', s1 _ h1, r⟩
theorem go_callC (C : Ctx p s m meth c Z y bytes maxL ret) {y' : MethodName} {bytes' : ByteArray} {maxL' : Nat} {ret' : Option FieldType} {rm' : Room} {as' : Array Value} {Q' : Option Value → Heap → Prop} {index W : Nat} {argsL rest : List Value} {ps : List FieldType} {r' : Option FieldType} (w1 : (Jvm.Cond.methodLink y.cls index y').before a0 Z = true) (w2 : (Jvm.Cond.instanceMethod y').before a0 Z = true) (hin : y'.name = "<init>") (hr0 : ret' = none) (M : Met l Z n0 y' bytes' maxL' ret' [] rm' as' h Q') (wc : (Jvm.Cond.code y' bytes' maxL' ret').before a0 Z = true) (wz : (Jvm.Cond.initialized y'.cls).before a0 Z = true) (hy : y'.cls ≠ "java/lang/invoke/MethodHandle" ∧ y'.cls ≠ "java/lang/invoke/VarHandle") (hf : rm'.frames + 1 ≤ R.frames) (hW : (rest.map fun v => v.category).sum ≤ W) (hl : W + (maxL' + 11) + rm'.locals ≤ R.locals) (hc : cs + rm'.cells ≤ R.cells) (hs : sl + rm'.slots ≤ R.slots) (hsz : Ls.size = maxL) {a : Addr} (hlen : parseMethodDescriptor y'.desc = some ⟨ps, r'⟩) (hal : argsL.length = ps.length) (hst : st = argsL.reverse ++ .ref a :: rest) (has : as' = (.ref a :: argsL).toArray) (hd : decode bytes pc = .ok (.invokespecial index, 3)) (hp : pc + 3 = pc')
    (K : ∀ v h', Q' v h' → Go p l e R s m args below meth c Z n0 Q kc ks h' (cs + rm'.cells) (sl + rm'.slots) (mkF m pc' Ls (v.toList ++ rest))) : Go p l e R s m args below meth c Z n0 Q kc ks h cs sl (mkF m pc Ls st) := fun T L0 hL O X eT => by
  subst hp has hst
  subst hr0
  obtain ⟨v, _, ⟨T1, L1, k1, n1⟩, -, X1, ⟨Lc1, q1, l1, y1, z1⟩, s1⟩ := X.specialBack C.1 (y := y') hin C.2.2.2.2.2.2.1 (mvT C.2.2.2.2.2.1 w1) (mvT C.2.2.2.2.2.1 w2) (mvT C.2.2.2.2.2.1 wc) hy (backOf (W := W) (R := R) (p := p) (e := e) (below := below) (args := args) (len := 3) (Q := fun v h L => Fr n0 L ∧ Old Z n0 h ∧ Q' v h) M C.2.2.2.2.2.1 wc wz hf hl) (g := mkF m pc Ls (argsL.reverse ++ .ref a :: rest)) rfl (hsz.trans C.2.2.1.symm) (Steps.refl _) (a := a) (argsL := argsL) (rest := rest) (lenOf hlen hal) rfl (by show 2 * 0 + _ ≤ _; omega) (hb C.2.1 hd) (fun _ _ => ⟨rfl, eT, hc, hs⟩)
  dsimp only [Pt.U, Pt.locs, Pt.cells, Pt.slots] at X1 l1 y1 z1 s1 q1
  subst l1 y1 z1
  obtain ⟨N, O', q⟩ := q1
  obtain ⟨U, w, L', h1, r⟩ := K v _ q T1 _ (Fr.app hL N) O' X1 rfl
  exact ⟨U, w, L', s1.trans h1, r⟩
theorem go_callV (C : Ctx p s m meth c Z y bytes maxL ret) {y' : MethodName} {bytes' : ByteArray} {maxL' : Nat} {ret' : Option FieldType} {rm' : Room} {as' : Array Value} {Q' : Option Value → Heap → Prop} {index W : Nat} {argsL rest : List Value} {ps : List FieldType} {r' : Option FieldType} (w1 : (Jvm.Cond.methodLink y.cls index y').before a0 Z = true) (w2 : (Jvm.Cond.declares y').before a0 Z = true) {K0 : String} (w3 : (Jvm.Cond.selects K0 y' y').before a0 Z = true) (w4 : (Jvm.Cond.instanceMethod y').before a0 Z = true) (M : Met l Z n0 y' bytes' maxL' ret' [] rm' as' h Q') (wc : (Jvm.Cond.code y' bytes' maxL' ret').before a0 Z = true) (wz : (Jvm.Cond.initialized y'.cls).before a0 Z = true) (hy : y'.cls ≠ "java/lang/invoke/MethodHandle" ∧ y'.cls ≠ "java/lang/invoke/VarHandle") (hf : rm'.frames + 1 ≤ R.frames) (hW : (rest.map fun v => v.category).sum ≤ W) (hl : W + (maxL' + 11) + rm'.locals ≤ R.locals) (hc : cs + rm'.cells ≤ R.cells) (hs : sl + rm'.slots ≤ R.slots) (hsz : Ls.size = maxL) {a : Addr} (E : Exa Z h a K0) (hlen : parseMethodDescriptor y'.desc = some ⟨ps, r'⟩) (hal : argsL.length = ps.length) (hst : st = argsL.reverse ++ .ref a :: rest) (has : as' = (.ref a :: argsL).toArray) (hd : decode bytes pc = .ok (.invokevirtual index, 3)) (hp : pc + 3 = pc')
    (K : ∀ v h', Q' v h' → Go p l e R s m args below meth c Z n0 Q kc ks h' (cs + rm'.cells) (sl + rm'.slots) (mkF m pc' Ls (v.toList ++ rest))) : Go p l e R s m args below meth c Z n0 Q kc ks h cs sl (mkF m pc Ls st) := fun T L0 hL O X eT => by
  subst hp has hst
  obtain ⟨cq, kq, qa, qb, qc⟩ := isOf C.2.2.2.2.2.1 eT E
  obtain ⟨v, _, ⟨T1, L1, k1, n1⟩, -, X1, ⟨Lc1, q1, l1, y1, z1⟩, s1⟩ := X.virtualBack C.1 (y := y') (z := y') C.2.2.2.2.2.2.1 (mvT C.2.2.2.2.2.1 w1) (mvT C.2.2.2.2.2.1 w2) (notFace_of_selects (args := #[]) (mvT C.2.2.2.2.2.1 w3)) (mvT C.2.2.2.2.2.1 w3) (mvT C.2.2.2.2.2.1 w4) hy (backOf (W := W) (R := R) (p := p) (e := e) (below := below) (args := args) (len := 3) (Q := fun v h L => Fr n0 L ∧ Old Z n0 h ∧ Q' v h) M C.2.2.2.2.2.1 wc wz hf hl) qa qc (g := mkF m pc Ls (argsL.reverse ++ .ref a :: rest)) rfl (hsz.trans C.2.2.1.symm) (Steps.refl _) (argsL := argsL) (rest := rest) (lenOf hlen hal) rfl (by show 2 * 0 + _ ≤ _; omega) (hb C.2.1 hd) (fun _ _ => ⟨rfl, eT, hc, hs⟩)
  dsimp only [Pt.U, Pt.locs, Pt.cells, Pt.slots] at X1 l1 y1 z1 s1 q1
  subst l1 y1 z1
  obtain ⟨N, O', q⟩ := q1
  obtain ⟨U, w, L', h1, r⟩ := K v _ q T1 _ (Fr.app hL N) O' X1 rfl
  exact ⟨U, w, L', s1.trans h1, r⟩
theorem go_callU (C : Ctx p s m meth c Z y bytes maxL ret) {y' : MethodName} {bytes' : ByteArray} {maxL' : Nat} {ret' : Option FieldType} {rm' : Room} {as' : Array Value} {Q' : Option Value → Heap → Prop} {index W : Nat} {argsL rest : List Value} {ps : List FieldType} {r' : Option FieldType} {K1 : String} (w1 : (Jvm.Cond.methodLink y.cls index ⟨K1, y'.name, y'.desc⟩).before a0 Z = true) (w2 : (Jvm.Cond.sameMethod K1 y'.cls y'.name y'.desc).before a0 Z = true) (w3 : (Jvm.Cond.declares y').before a0 Z = true) {K0 : String} (w4 : (Jvm.Cond.selects K0 ⟨K1, y'.name, y'.desc⟩ y').before a0 Z = true) (w5 : (Jvm.Cond.instanceMethod y').before a0 Z = true) (M : Met l Z n0 y' bytes' maxL' ret' [] rm' as' h Q') (wc : (Jvm.Cond.code y' bytes' maxL' ret').before a0 Z = true) (wz : (Jvm.Cond.initialized y'.cls).before a0 Z = true) (hy : y'.cls ≠ "java/lang/invoke/MethodHandle" ∧ y'.cls ≠ "java/lang/invoke/VarHandle") (hf : rm'.frames + 1 ≤ R.frames) (hW : (rest.map fun v => v.category).sum ≤ W) (hl : W + (maxL' + 11) + rm'.locals ≤ R.locals) (hc : cs + rm'.cells ≤ R.cells) (hs : sl + rm'.slots ≤ R.slots) (hsz : Ls.size = maxL) {a : Addr} (E : Exa Z h a K0) (hlen : parseMethodDescriptor y'.desc = some ⟨ps, r'⟩) (hal : argsL.length = ps.length) (hst : st = argsL.reverse ++ .ref a :: rest) (has : as' = (.ref a :: argsL).toArray) (hd : decode bytes pc = .ok (.invokevirtual index, 3)) (hp : pc + 3 = pc')
    (K : ∀ v h', Q' v h' → Go p l e R s m args below meth c Z n0 Q kc ks h' (cs + rm'.cells) (sl + rm'.slots) (mkF m pc' Ls (v.toList ++ rest))) : Go p l e R s m args below meth c Z n0 Q kc ks h cs sl (mkF m pc Ls st) := fun T L0 hL O X eT => by
  subst hp has hst
  obtain ⟨cq, kq, qa, qb, qc⟩ := isOf C.2.2.2.2.2.1 eT E
  obtain ⟨v, _, ⟨T1, L1, k1, n1⟩, -, X1, ⟨Lc1, q1, l1, y1, z1⟩, s1⟩ := X.virtualBackUp C.1 (x := ⟨K1, y'.name, y'.desc⟩) (y := y') (owner := y'.cls) C.2.2.2.2.2.2.1 (mvT C.2.2.2.2.2.1 w1) (mvT C.2.2.2.2.2.1 w2) (mvT C.2.2.2.2.2.1 w3) hy (mvT C.2.2.2.2.2.1 w4) (mvT C.2.2.2.2.2.1 w5) (backOf (W := W) (R := R) (p := p) (e := e) (below := below) (args := args) (len := 3) (Q := fun v h L => Fr n0 L ∧ Old Z n0 h ∧ Q' v h) M C.2.2.2.2.2.1 wc wz hf hl) qa qc (g := mkF m pc Ls (argsL.reverse ++ .ref a :: rest)) rfl (hsz.trans C.2.2.1.symm) (Steps.refl _) (argsL := argsL) (rest := rest) (lenOf hlen hal) rfl (by show 2 * 0 + _ ≤ _; omega) (hb C.2.1 hd) (fun _ _ => ⟨rfl, eT, hc, hs⟩)
  dsimp only [Pt.U, Pt.locs, Pt.cells, Pt.slots] at X1 l1 y1 z1 s1 q1
  subst l1 y1 z1
  obtain ⟨N, O', q⟩ := q1
  obtain ⟨U, w, L', h1, r⟩ := K v _ q T1 _ (Fr.app hL N) O' X1 rfl
  exact ⟨U, w, L', s1.trans h1, r⟩
theorem go_callI (C : Ctx p s m meth c Z y bytes maxL ret) {y' : MethodName} {bytes' : ByteArray} {maxL' : Nat} {ret' : Option FieldType} {rm' : Room} {as' : Array Value} {Q' : Option Value → Heap → Prop} {index W : Nat} {argsL rest : List Value} {ps : List FieldType} {r' : Option FieldType} {xi : MethodName} {count : Nat} (w1 : (Jvm.Cond.methodLink y.cls index xi).before a0 Z = true) (w2 : (Jvm.Cond.declares xi).before a0 Z = true) (w3 : (Jvm.Cond.interfaceMethod xi.cls xi.cls xi.name xi.desc).before a0 Z = true) {K0 : String} (w4 : (Jvm.Cond.selects K0 xi y').before a0 Z = true) (w5 : (Jvm.Cond.instanceMethod y').before a0 Z = true) (w6 : (Jvm.Cond.publicMethod y').before a0 Z = true) (w7 : (Jvm.Cond.unhidden K0 xi.name xi.desc).before a0 Z = true) (w8 : (Jvm.Cond.castable K0 xi.cls).before a0 Z = true) (hfa : (Jvm.Cond.interfaceMethod xi.cls xi.cls xi.name xi.desc).faceAtom = true) (hyi : xi.cls ≠ "java/lang/invoke/MethodHandle" ∧ xi.cls ≠ "java/lang/invoke/VarHandle") (M : Met l Z n0 y' bytes' maxL' ret' [] rm' as' h Q') (wc : (Jvm.Cond.code y' bytes' maxL' ret').before a0 Z = true) (wz : (Jvm.Cond.initialized y'.cls).before a0 Z = true) (hy : y'.cls ≠ "java/lang/invoke/MethodHandle" ∧ y'.cls ≠ "java/lang/invoke/VarHandle") (hf : rm'.frames + 1 ≤ R.frames) (hW : (rest.map fun v => v.category).sum ≤ W) (hl : W + (maxL' + 11) + rm'.locals ≤ R.locals) (hc : cs + rm'.cells ≤ R.cells) (hs : sl + rm'.slots ≤ R.slots) (hsz : Ls.size = maxL) {a : Addr} (E : Exa Z h a K0) (hlen : parseMethodDescriptor xi.desc = some ⟨ps, r'⟩) (hal : argsL.length = ps.length) (hst : st = argsL.reverse ++ .ref a :: rest) (has : as' = (.ref a :: argsL).toArray) (hd : decode bytes pc = .ok (.invokeinterface index count, 5)) (hp : pc + 5 = pc')
    (K : ∀ v h', Q' v h' → Go p l e R s m args below meth c Z n0 Q kc ks h' (cs + rm'.cells) (sl + rm'.slots) (mkF m pc' Ls (v.toList ++ rest))) : Go p l e R s m args below meth c Z n0 Q kc ks h cs sl (mkF m pc Ls st) := fun T L0 hL O X eT => by
  subst hp has hst
  obtain ⟨cq, kq, qa, qb, qc⟩ := isOf C.2.2.2.2.2.1 eT E
  obtain ⟨v, _, ⟨T1, L1, k1, n1⟩, -, X1, ⟨Lc1, q1, l1, y1, z1⟩, s1⟩ := X.interfaceBack C.1 (xi := xi) (y := y') C.2.2.2.2.2.2.1 (mvT C.2.2.2.2.2.1 w1) (mvT C.2.2.2.2.2.1 w2) (mvT C.2.2.2.2.2.1 w3 (by simp [Cond.onTables, Cond.keepsFace, Cond.keeps, Cond.steady, hfa])) (mvT C.2.2.2.2.2.1 w4) (mvT C.2.2.2.2.2.1 w5) (mvT C.2.2.2.2.2.1 w6) (mvT C.2.2.2.2.2.1 w7) (mvT C.2.2.2.2.2.1 w8) hyi (backOf (W := W) (R := R) (p := p) (e := e) (below := below) (args := args) (len := 5) (Q := fun v h L => Fr n0 L ∧ Old Z n0 h ∧ Q' v h) M C.2.2.2.2.2.1 wc wz hf hl) qa qb qc (g := mkF m pc Ls (argsL.reverse ++ .ref a :: rest)) rfl (hsz.trans C.2.2.1.symm) (Steps.refl _) (argsL := argsL) (rest := rest) (lenOf hlen hal) rfl (by show 2 * 0 + _ ≤ _; omega) (hb C.2.1 hd) (fun _ _ => ⟨rfl, eT, hc, hs⟩)
  dsimp only [Pt.U, Pt.locs, Pt.cells, Pt.slots] at X1 l1 y1 z1 s1 q1
  subst l1 y1 z1
  obtain ⟨N, O', q⟩ := q1
  obtain ⟨U, w, L', h1, r⟩ := K v _ q T1 _ (Fr.app hL N) O' X1 rfl
  exact ⟨U, w, L', s1.trans h1, r⟩
def Ar (Z : State) (h : Heap) (a : Addr) (ty : FieldType) (k : ClassId) (vs : List Value) : Prop := ∃ cl : Cell, Arr Z h a cl ty ∧ cl.cls = k ∧ cl.slots.toList = vs
theorem Ar.ext {a : Addr} {ty : FieldType} {k : ClassId} {vs : List Value} (F : Ar Z h a ty k vs) (E : Ext h h') : Ar Z h' a ty k vs := by obtain ⟨cl, A, r⟩ := F; exact ⟨cl, A.ext E, r⟩
theorem Ar.other {a b : Addr} {sl : Nat} {v : Value} {ty : FieldType} {k : ClassId} {vs : List Value} (F : Ar Z h b ty k vs) (W : Wr h h' a sl v) (q : b ≠ a) : Ar Z h' b ty k vs := by obtain ⟨cl, A, r⟩ := F; exact ⟨cl, A.other W q, r⟩
theorem Ar.keep {a : Addr} {ty : FieldType} {k : ClassId} {vs : List Value} {ws : List Addr} (F : Ar Z h a ty k vs) (K : Keep h h' ws) (q : a ∉ ws) : Ar Z h' a ty k vs := by obtain ⟨cl, A, r⟩ := F; exact ⟨cl, ⟨K.2.1 a cl A.1 q, A.2⟩, r⟩
theorem Ar.lt {a : Addr} {ty : FieldType} {k : ClassId} {vs : List Value} (F : Ar Z h a ty k vs) : a < h.size := by obtain ⟨cl, A, r⟩ := F; exact A.lt
theorem Ar.new {a : Addr} {ty : FieldType} {k : ClassId} {n : Int32} {len : Nat} (A : Arr Z h a (newA k ty n) ty) (hn : n.toNatClampNeg = len) : Ar Z h a ty k (List.replicate len (defaultValue ty)) := ⟨_, A, rfl, by subst hn; simp [newA]⟩
theorem Ar.inb {cl : Cell} {vs : List Value} {j : Int32} {i : Nat} (hn : ¬ j < 0) (hj : j.toNatClampNeg = i) (e0 : cl.slots.toList = vs) (hi : i < vs.length) : ¬ (j < 0 ∨ cl.slots.size ≤ j.toNatClampNeg) := by
  subst e0 hj
  rw [Array.length_toList] at hi
  exact fun q => q.elim hn (fun q => absurd hi (Nat.not_lt.mpr q))
theorem Ar.upd {a : Addr} {ty : FieldType} {cl : Cell} {vs : List Value} {j : Int32} {i : Nat} {v : Value} (A : Arr Z h a (cl.setSlot j.toNatClampNeg v) ty) (hj : j.toNatClampNeg = i) (e0 : cl.slots.toList = vs) : Ar Z h a ty cl.cls (vs.set i v) := ⟨_, A, rfl, by subst hj e0; simp [Cell.setSlot]⟩
theorem go_newPA (C : Ctx p s m meth c Z y bytes maxL ret) {aty : ArrayType} {n : Int32} {len : Nat} {ty : FieldType} (hty : newarray.typeOf aty = ty) (w : (Jvm.Cond.arrayClass ty).before a0 Z = true) (hd : decode bytes pc = .ok (.newarray aty, 2)) (hp : pc + 2 = pc') (hn : ¬ n < 0) (hlen : n.toNatClampNeg = len) (hb' : len * 8 ≤ 536870912) (hc : cs + 1 ≤ R.cells) (hl : sl + len ≤ R.slots)
    (K : ∀ h' a k, a = h.size → n0 ≤ a → Ext h h' → Ar Z h' a ty k (List.replicate len (defaultValue ty)) → Go p l e R s m args below meth c Z n0 Q kc ks h' (cs + 1) (sl + len) (mkF m pc' Ls (.ref a :: st))) : Go p l e R s m args below meth c Z n0 Q kc ks h cs sl (mkF m pc Ls (.int n :: st)) := by
  subst hty
  exact go_newP C w hd hp hn (Nat.le_of_eq hlen) hb' hc hl fun h' a k e1 e2 E A => K h' a k e1 e2 E (Ar.new A hlen)
theorem go_newRA (C : Ctx p s m meth c Z y bytes maxL ret) {K0 : String} {index : Nat} {n : Int32} {len : Nat} (w1 : (Jvm.Cond.classLink y.cls index K0).before a0 Z = true) (w2 : (Jvm.Cond.arrayOver (.object K0)).before a0 Z = true) (hd : decode bytes pc = .ok (.anewarray index, 3)) (hp : pc + 3 = pc') (hn : ¬ n < 0) (hlen : n.toNatClampNeg = len) (hb' : len * 8 ≤ 536870912) (hc : cs + 1 ≤ R.cells) (hl : sl + len ≤ R.slots)
    (K : ∀ h' a k, a = h.size → n0 ≤ a → Ext h h' → Ar Z h' a (.object K0) k (List.replicate len .null) → Ovr Z k K0 → Go p l e R s m args below meth c Z n0 Q kc ks h' (cs + 1) (sl + len) (mkF m pc' Ls (.ref a :: st))) : Go p l e R s m args below meth c Z n0 Q kc ks h cs sl (mkF m pc Ls (.int n :: st)) :=
  go_newR C w1 w2 hd hp hn (Nat.le_of_eq hlen) hb' hc hl fun h' a k e1 e2 E A O => K h' a k e1 e2 E (Ar.new A hlen) O
theorem go_iaset (C : Ctx p s m meth c Z y bytes maxL ret) {a : Addr} {k : ClassId} {vs vs' : List Value} {j : Int32} {i : Nat} {x : Int32} (A : Ar Z h a .int k vs) (hn : ¬ j < 0) (hj : j.toNatClampNeg = i) (hi : i < vs.length) (hvs : vs.set i (.int x) = vs') (hd : decode bytes pc = .ok (.iastore, 1)) (hp : pc + 1 = pc') (ha : n0 ≤ a)
    (K : ∀ h', Wr h h' a i (.int x) → Ar Z h' a .int k vs' → Go p l e R s m args below meth c Z n0 Q kc ks h' cs sl (mkF m pc' Ls st)) : Go p l e R s m args below meth c Z n0 Q kc ks h cs sl (mkF m pc Ls (.int x :: .int j :: .ref a :: st)) := by
  obtain ⟨cl, A, rfl, e0⟩ := A
  subst hvs
  exact go_stI C A (Ar.inb hn hj e0 hi) hd hp ha fun h' W A' => K h' (hj ▸ W) (Ar.upd A' hj e0)
theorem go_laset (C : Ctx p s m meth c Z y bytes maxL ret) {a : Addr} {k : ClassId} {vs vs' : List Value} {j : Int32} {i : Nat} {x : Int64} (A : Ar Z h a .long k vs) (hn : ¬ j < 0) (hj : j.toNatClampNeg = i) (hi : i < vs.length) (hvs : vs.set i (.long x) = vs') (hd : decode bytes pc = .ok (.lastore, 1)) (hp : pc + 1 = pc') (ha : n0 ≤ a)
    (K : ∀ h', Wr h h' a i (.long x) → Ar Z h' a .long k vs' → Go p l e R s m args below meth c Z n0 Q kc ks h' cs sl (mkF m pc' Ls st)) : Go p l e R s m args below meth c Z n0 Q kc ks h cs sl (mkF m pc Ls (.long x :: .int j :: .ref a :: st)) := by
  obtain ⟨cl, A, rfl, e0⟩ := A
  subst hvs
  exact go_stJ C A (Ar.inb hn hj e0 hi) hd hp ha fun h' W A' => K h' (hj ▸ W) (Ar.upd A' hj e0)
theorem go_caset (C : Ctx p s m meth c Z y bytes maxL ret) {a : Addr} {k : ClassId} {vs vs' : List Value} {j : Int32} {i : Nat} {x : Int32} (A : Ar Z h a .char k vs) (hn : ¬ j < 0) (hj : j.toNatClampNeg = i) (hi : i < vs.length) (hvs : vs.set i (.int (nar .char x)) = vs') (hd : decode bytes pc = .ok (.castore, 1)) (hp : pc + 1 = pc') (ha : n0 ≤ a)
    (K : ∀ h', Wr h h' a i (.int (nar .char x)) → Ar Z h' a .char k vs' → Go p l e R s m args below meth c Z n0 Q kc ks h' cs sl (mkF m pc' Ls st)) : Go p l e R s m args below meth c Z n0 Q kc ks h cs sl (mkF m pc Ls (.int x :: .int j :: .ref a :: st)) := by
  obtain ⟨cl, A, rfl, e0⟩ := A
  subst hvs
  exact go_stC C A (Ar.inb hn hj e0 hi) hd hp ha fun h' W A' => K h' (hj ▸ W) (Ar.upd A' hj e0)
theorem go_raset (C : Ctx p s m meth c Z y bytes maxL ret) {a b : Addr} {k : ClassId} {K0 : String} {vs vs' : List Value} {j : Int32} {i : Nat} (A : Ar Z h a (.object K0) k vs) (V : Ovr Z k K0) (I : Ins Z h b K0 true) (hn : ¬ j < 0) (hj : j.toNatClampNeg = i) (hi : i < vs.length) (hvs : vs.set i (.ref b) = vs') (hd : decode bytes pc = .ok (.aastore, 1)) (hp : pc + 1 = pc') (ha : n0 ≤ a)
    (K : ∀ h', Wr h h' a i (.ref b) → Ar Z h' a (.object K0) k vs' → Go p l e R s m args below meth c Z n0 Q kc ks h' cs sl (mkF m pc' Ls st)) : Go p l e R s m args below meth c Z n0 Q kc ks h cs sl (mkF m pc Ls (.ref b :: .int j :: .ref a :: st)) := by
  obtain ⟨cl, A, rfl, e0⟩ := A
  subst hvs
  exact go_stR C A (Ar.inb hn hj e0 hi) rfl (Sto.of A V I) hd hp ha fun h' W A' => K h' (hj ▸ W) (Ar.upd A' hj e0)
theorem go_raget (C : Ctx p s m meth c Z y bytes maxL ret) {a : Addr} {k : ClassId} {vs : List Value} {ty : FieldType} {j : Int32} {i : Nat} {v : Value} (A : Ar Z h a ty k vs) (hty : ty.isReference = true) (hn : ¬ j < 0) (hj : j.toNatClampNeg = i) (hv : vs[i]? = some v) (hd : decode bytes pc = .ok (.aaload, 1)) (hp : pc + 1 = pc') (K : Go p l e R s m args below meth c Z n0 Q kc ks h cs sl (mkF m pc' Ls (v :: st))) : Go p l e R s m args below meth c Z n0 Q kc ks h cs sl (mkF m pc Ls (.int j :: .ref a :: st)) := by
  obtain ⟨cl, A, rfl, e0⟩ := A
  exact go_aaload C A hty (Ar.inb hn hj e0 (List.getElem?_eq_some_iff.mp hv).1) (by subst e0 hj; rw [← hv, Array.getElem?_toList]) hd hp K
theorem go_alen (C : Ctx p s m meth c Z y bytes maxL ret) {a : Addr} {k : ClassId} {vs : List Value} {ty : FieldType} {z : Int32} (A : Ar Z h a ty k vs) (hz : vs.length.toInt32 = z) (hd : decode bytes pc = .ok (.arraylength, 1)) (hp : pc + 1 = pc') (K : Go p l e R s m args below meth c Z n0 Q kc ks h cs sl (mkF m pc' Ls (.int z :: st))) : Go p l e R s m args below meth c Z n0 Q kc ks h cs sl (mkF m pc Ls (.ref a :: st)) := by
  obtain ⟨cl, A, rfl, e0⟩ := A
  exact go_arraylength C A (by rw [← hz, ← e0, Array.length_toList]) hd hp K
theorem go_iaget (C : Ctx p s m meth c Z y bytes maxL ret) {a : Addr} {k : ClassId} {vs : List Value} {j : Int32} {i : Nat} {v : Value} (A : Ar Z h a .int k vs) (hn : ¬ j < 0) (hj : j.toNatClampNeg = i) (hv : vs[i]? = some v) (hd : decode bytes pc = .ok (.iaload, 1)) (hp : pc + 1 = pc') (K : Go p l e R s m args below meth c Z n0 Q kc ks h cs sl (mkF m pc' Ls (v :: st))) : Go p l e R s m args below meth c Z n0 Q kc ks h cs sl (mkF m pc Ls (.int j :: .ref a :: st)) := by
  obtain ⟨cl, A, rfl, e0⟩ := A
  exact go_iaload C A (Ar.inb hn hj e0 (List.getElem?_eq_some_iff.mp hv).1) (by subst e0 hj; rw [← hv, Array.getElem?_toList]) hd hp K
theorem go_laget (C : Ctx p s m meth c Z y bytes maxL ret) {a : Addr} {k : ClassId} {vs : List Value} {j : Int32} {i : Nat} {v : Value} (A : Ar Z h a .long k vs) (hn : ¬ j < 0) (hj : j.toNatClampNeg = i) (hv : vs[i]? = some v) (hd : decode bytes pc = .ok (.laload, 1)) (hp : pc + 1 = pc') (K : Go p l e R s m args below meth c Z n0 Q kc ks h cs sl (mkF m pc' Ls (v :: st))) : Go p l e R s m args below meth c Z n0 Q kc ks h cs sl (mkF m pc Ls (.int j :: .ref a :: st)) := by
  obtain ⟨cl, A, rfl, e0⟩ := A
  exact go_laload C A (Ar.inb hn hj e0 (List.getElem?_eq_some_iff.mp hv).1) (by subst e0 hj; rw [← hv, Array.getElem?_toList]) hd hp K
theorem go_caget (C : Ctx p s m meth c Z y bytes maxL ret) {a : Addr} {k : ClassId} {vs : List Value} {j : Int32} {i : Nat} {v : Value} (A : Ar Z h a .char k vs) (hn : ¬ j < 0) (hj : j.toNatClampNeg = i) (hv : vs[i]? = some v) (hd : decode bytes pc = .ok (.caload, 1)) (hp : pc + 1 = pc') (K : Go p l e R s m args below meth c Z n0 Q kc ks h cs sl (mkF m pc' Ls (v :: st))) : Go p l e R s m args below meth c Z n0 Q kc ks h cs sl (mkF m pc Ls (.int j :: .ref a :: st)) := by
  obtain ⟨cl, A, rfl, e0⟩ := A
  exact go_caload C A (Ar.inb hn hj e0 (List.getElem?_eq_some_iff.mp hv).1) (by subst e0 hj; rw [← hv, Array.getElem?_toList]) hd hp K
theorem go_clone (C : Ctx p s m meth c Z y bytes maxL ret) {ad : String} {index : Nat} {a : Addr} {ty : FieldType} {k : ClassId} {vs : List Value} {len W : Nat}
    (w1 : (Jvm.Cond.methodLink y.cls index ⟨ad, "clone", "()Ljava/lang/Object;"⟩).before a0 Z = true) (w2 : (Jvm.Cond.sameMethod ad "java/lang/Object" "clone" "()Ljava/lang/Object;").before a0 Z = true) (w3 : (Jvm.Cond.native ⟨"java/lang/Object", "clone", "()Ljava/lang/Object;"⟩).before a0 Z = true)
    (w4 : (Jvm.Cond.instanceMethod ⟨"java/lang/Object", "clone", "()Ljava/lang/Object;"⟩).before a0 Z = true) (w5 : (Jvm.Cond.selects ad ⟨ad, "clone", "()Ljava/lang/Object;"⟩ ⟨"java/lang/Object", "clone", "()Ljava/lang/Object;"⟩).before a0 Z = true) (w6 : (Jvm.Cond.castable ad "java/lang/Cloneable").before a0 Z = true)
    (A : Ar Z h a ty k vs) (E : Exa Z h a ad) (hfit : ∀ v ∈ vs, fits ty v = true) (hsz : Ls.size = maxL) (hd : decode bytes pc = .ok (.invokevirtual index, 3)) (hp : pc + 3 = pc') (hf : 1 ≤ R.frames) (hW : (st.map fun v => v.category).sum ≤ W) (hl : W + 14 ≤ R.locals) (hlen : vs.length = len) (hc : cs + 1 ≤ R.cells) (hsl : sl + len ≤ R.slots)
    (K : ∀ h' b, b = h.size → n0 ≤ b → Ext h h' → Ar Z h' b ty k vs → Exa Z h' b ad → Go p l e R s m args below meth c Z n0 Q kc ks h' (cs + 1) (sl + len) (mkF m pc' Ls (.ref b :: st))) : Go p l e R s m args below meth c Z n0 Q kc ks h cs sl (mkF m pc Ls (.ref a :: st)) := fun T L0 hL O X eT => by
  subst hp
  obtain ⟨cl, A, hk', e0⟩ := A
  have FC : FitC Z cl := fitC_of A fun i hi v hv => hfit v (by subst e0; exact List.mem_of_getElem? (by rw [Array.getElem?_toList]; exact hv))
  obtain ⟨T', h', X', e', E', A', Ex', hs⟩ := cloneA X C.1 C.2.2.2.2.2.1 C.2.2.2.2.2.2.1 w1 w2 w3 w4 w5 w6 eT A E FC (g := mkF m pc Ls (.ref a :: st)) rfl (hsz.trans C.2.2.1.symm) rfl (hb C.2.1 hd) hf (W := W) (by show 2 * 0 + _ ≤ _; omega) hl (cap := len) (by rw [← hlen, ← e0, Array.length_toList]; exact Nat.le_refl _) hc hsl
  obtain ⟨U, v, L', h1, r⟩ := K h' h.size rfl (O.1 ▸ O.2.1) E' ⟨cloneOf cl, A', hk', e0⟩ Ex' T' _ hL (O.ext E') X' e'
  exact ⟨U, v, L', hs U h1, r⟩
theorem go_newPE (C : Ctx p s m meth c Z y bytes maxL ret) {aty : ArrayType} {n : Int32} {len : Nat} {ty : FieldType} {ad : String} (hty : newarray.typeOf aty = ty) (had : "[" ++ ty.toString = ad) (w : (Jvm.Cond.arrayClass ty).before a0 Z = true) (hd : decode bytes pc = .ok (.newarray aty, 2)) (hp : pc + 2 = pc') (hn : ¬ n < 0) (hlen : n.toNatClampNeg = len) (hb' : len * 8 ≤ 536870912) (hc : cs + 1 ≤ R.cells) (hl : sl + len ≤ R.slots)
    (K : ∀ h' a k, a = h.size → n0 ≤ a → Ext h h' → Ar Z h' a ty k (List.replicate len (defaultValue ty)) → Exa Z h' a ad → Go p l e R s m args below meth c Z n0 Q kc ks h' (cs + 1) (sl + len) (mkF m pc' Ls (.ref a :: st))) : Go p l e R s m args below meth c Z n0 Q kc ks h cs sl (mkF m pc Ls (.int n :: st)) := fun T L0 hL O X eT => by
  subst hp hty
  obtain ⟨T', h', k, X', e', E, A, Ex, hs⟩ := newPE X C.1 C.2.2.2.2.2.1 w eT (g := mkF m pc Ls (.int n :: st)) rfl (hb C.2.1 hd) rfl hn (Nat.le_of_eq hlen) hb' hc hl had
  obtain ⟨U, v, L', h1, r⟩ := K h' h.size k rfl (O.1 ▸ O.2.1) E (Ar.new A hlen) Ex T' _ hL (O.ext E) X' e'
  exact ⟨U, v, L', hs U h1, r⟩
theorem go_newAA (C : Ctx p s m meth c Z y bytes maxL ret) {K0 ad : String} {ty : FieldType} {index : Nat} {n : Int32} {len : Nat} (hC : (FieldType.array ty).toString = K0) (had : "[" ++ K0 = ad) (w1 : (Jvm.Cond.classLink y.cls index K0).before a0 Z = true) (w2 : (Jvm.Cond.arrayOver (.array ty)).before a0 Z = true) (hd : decode bytes pc = .ok (.anewarray index, 3)) (hp : pc + 3 = pc') (hn : ¬ n < 0) (hlen : n.toNatClampNeg = len) (hb' : len * 8 ≤ 536870912) (hc : cs + 1 ≤ R.cells) (hl : sl + len ≤ R.slots)
    (K : ∀ h' a k, a = h.size → n0 ≤ a → Ext h h' → Ar Z h' a (.array ty) k (List.replicate len .null) → OvrA Z k ty K0 → Exa Z h' a ad → Go p l e R s m args below meth c Z n0 Q kc ks h' (cs + 1) (sl + len) (mkF m pc' Ls (.ref a :: st))) : Go p l e R s m args below meth c Z n0 Q kc ks h cs sl (mkF m pc Ls (.int n :: st)) := fun T L0 hL O X eT => by
  subst hp
  obtain ⟨T', h', k, X', e', E, A, Ex, V, hs⟩ := newRA X C.1 C.2.2.2.2.2.1 C.2.2.2.2.2.2.1 hC w1 w2 eT (g := mkF m pc Ls (.int n :: st)) rfl (hb C.2.1 hd) rfl hn (Nat.le_of_eq hlen) hb' hc hl had
  obtain ⟨U, v, L', h1, r⟩ := K h' h.size k rfl (O.1 ▸ O.2.1) E (Ar.new A hlen) V Ex T' _ hL (O.ext E) X' e'
  exact ⟨U, v, L', hs U h1, r⟩
theorem go_aaset (C : Ctx p s m meth c Z y bytes maxL ret) {a b : Addr} {k : ClassId} {K0 : String} {ty : FieldType} {vs vs' : List Value} {j : Int32} {i : Nat} (A : Ar Z h a (.array ty) k vs) (V : OvrA Z k ty K0) (I : Ins Z h b K0 true) (hn : ¬ j < 0) (hj : j.toNatClampNeg = i) (hi : i < vs.length) (hvs : vs.set i (.ref b) = vs') (hd : decode bytes pc = .ok (.aastore, 1)) (hp : pc + 1 = pc') (ha : n0 ≤ a)
    (K : ∀ h', Wr h h' a i (.ref b) → Ar Z h' a (.array ty) k vs' → Go p l e R s m args below meth c Z n0 Q kc ks h' cs sl (mkF m pc' Ls st)) : Go p l e R s m args below meth c Z n0 Q kc ks h cs sl (mkF m pc Ls (.ref b :: .int j :: .ref a :: st)) := by
  obtain ⟨cl, A, rfl, e0⟩ := A
  subst hvs
  exact go_stR C A (Ar.inb hn hj e0 hi) rfl (Sto.ofVA A rfl V I) hd hp ha fun h' W A' => K h' (hj ▸ W) (Ar.upd A' hj e0)
theorem go_dupX2 (C : Ctx p s m meth c Z y bytes maxL ret) {u v w : Value} (hd : decode bytes pc = .ok (.dup_x2, 1)) (hu : u.category = 1) (hv : v.category = 1) (hw : w.category = 1) (hp : pc + 1 = pc') (K : Go p l e R s m args below meth c Z n0 Q kc ks h cs sl (mkF m pc' Ls (u :: v :: w :: u :: st))) : Go p l e R s m args below meth c Z n0 Q kc ks h cs sl (mkF m pc Ls (u :: v :: w :: st)) := by
  subst hp
  refine go_step K fun T t a k => ?_
  have hx := C.1
  have hd' := hb C.2.1 hd
  jvm_step a [a.top, hx, hd', hu, hv, hw]
  exact k
theorem go_callP (C : Ctx p s m meth c Z y bytes maxL ret) {y' : MethodName} {bytes' : ByteArray} {maxL' : Nat} {ret' : Option FieldType} {rm' : Room} {as' : Array Value} {Q' : Option Value → Heap → Prop} {index W : Nat} {argsL rest : List Value} {ps : List FieldType} {r' : Option FieldType} (w1 : (Jvm.Cond.methodLink y.cls index y').before a0 Z = true) (w2 : (Jvm.Cond.instanceMethod y').before a0 Z = true) (w3 : (Jvm.Cond.privateMethod y').before a0 Z = true) {nn : Nat} (wi : (Jvm.Cond.instantiable y'.cls nn).before a0 Z = true) (M : Met l Z n0 y' bytes' maxL' ret' [] rm' as' h Q') (wc : (Jvm.Cond.code y' bytes' maxL' ret').before a0 Z = true) (wz : (Jvm.Cond.initialized y'.cls).before a0 Z = true) (hy : y'.cls ≠ "java/lang/invoke/MethodHandle" ∧ y'.cls ≠ "java/lang/invoke/VarHandle") (hf : rm'.frames + 1 ≤ R.frames) (hW : (rest.map fun v => v.category).sum ≤ W) (hl : W + (maxL' + 11) + rm'.locals ≤ R.locals) (hc : cs + rm'.cells ≤ R.cells) (hs : sl + rm'.slots ≤ R.slots) (hsz : Ls.size = maxL) {a : Addr} {K0 : String} (E : Exa Z h a K0) (hlen : parseMethodDescriptor y'.desc = some ⟨ps, r'⟩) (hal : argsL.length = ps.length) (hst : st = argsL.reverse ++ .ref a :: rest) (has : as' = (.ref a :: argsL).toArray) (hd : decode bytes pc = .ok (.invokevirtual index, 3)) (hp : pc + 3 = pc')
    (K : ∀ v h', Q' v h' → Go p l e R s m args below meth c Z n0 Q kc ks h' (cs + rm'.cells) (sl + rm'.slots) (mkF m pc' Ls (v.toList ++ rest))) : Go p l e R s m args below meth c Z n0 Q kc ks h cs sl (mkF m pc Ls st) := fun T L0 hL O X eT => by
  subst hp has hst
  obtain ⟨mk, methM, hnamed, hmethM, hstM, habM⟩ := Cond.instanceMethod_spec (mvT (args := args) C.2.2.2.2.2.1 w2)
  obtain ⟨methM', cM, hmethM', -, -, -, -, -, -, hsigM⟩ := Cond.code_spec hnamed (mvT (args := args) C.2.2.2.2.2.1 wc)
  cases hmethM.symm.trans hmethM'
  obtain ⟨c0, kP, i1, hkP, -, hkPi0, -⟩ := Cond.instantiable_spec (mvT (args := args) C.2.2.2.2.2.1 wi)
  have hkPi := (Bool.or_eq_false_iff.mp hkPi0).1
  cases (findClass_of_methodNamed hnamed).symm.trans i1
  obtain ⟨cell, hcell0, hobj⟩ := E.cell
  have hcell : T.heap[a]? = some cell := by rw [eT]; exact hcell0
  have hselP : selectMethod e.platform s.vm cell.cls mk = .method mk := selectMethod_private hmethM (Cond.privateMethod_at (mvP (args := args) C.2.2.2.2.2.1 w3) mk methM hnamed hmethM)
  obtain ⟨vm₁, X₁, hstep₁⟩ := X.invokevirtual C.1 C.2.2.2.2.2.2.1 (mvT C.2.2.2.2.2.1 w1) hnamed hmethM hstM hkP hkPi hy (a := a) (cell := cell) hcell hobj hselP hmethM habM hkP hkPi (g := mkF m pc Ls (argsL.reverse ++ .ref a :: rest)) rfl (argsL := argsL) (rest := rest) (lenOf hlen hal _ hsigM) rfl (hb C.2.1 hd)
  obtain ⟨v, ⟨T1, L1, k1, n1⟩, X1, ⟨Lc1, q1, l1, y1, z1⟩, hsteps⟩ := (backOf (W := W) (R := R) (p := p) (e := e) (below := below) (args := args) (len := 3) (Q := fun v h L => Fr n0 L ∧ Old Z n0 h ∧ Q' v h) M C.2.2.2.2.2.1 wc wz hf hl) m meth c ⟨T.setVm vm₁, L0, cs, sl⟩ (mkF m pc Ls rest) (.invokevirtual index) mk (.ref a :: argsL).toArray X₁ rfl (hsz.trans C.2.2.1.symm) (hb C.2.1 hd) (by show 2 * 0 + (rest.map fun v => v.category).sum ≤ W; omega) (X₁.named hnamed) ⟨rfl, eT, hc, hs⟩
  have s1 := (hstep₁ _ fun acts => by rw [doInvoke_state]; exact Steps.refl _).trans hsteps
  dsimp only [Pt.U, Pt.locs, Pt.cells, Pt.slots] at X1 l1 y1 z1 s1 q1
  subst l1 y1 z1
  obtain ⟨N, O', q⟩ := q1
  obtain ⟨U, w, L', h1, r⟩ := K v _ q T1 _ (Fr.app hL N) O' X1 rfl
  exact ⟨U, w, L', s1.trans h1, r⟩
end OwnGo
theorem wd_0 {Z : State} {a0 : Array Value} (hw : ∀ d ∈ tables_1, d.before a0 Z = true) : (Jvm.Cond.constant "com/example/bidwright/bidwright/rules/TermStricterPinLaw" (28 : Nat) (2147483647 : Int32)).before a0 Z = true := hw _ (List.mem_of_getElem? (i := 0) rfl)
theorem wd_1 {Z : State} {a0 : Array Value} (hw : ∀ d ∈ tables_1, d.before a0 Z = true) : (Jvm.Cond.methodLink "com/example/bidwright/bidwright/rules/TermStricterPinLaw" (29 : Nat) ({ cls := "com/example/bidwright/bidwright/rules/TermStricterPinLaw", name := "pick", desc := "(I)Lcom/example/bidwright/bidwright/rules/Term;" } : Jvm.MethodName)).before a0 Z = true := hw _ (List.mem_of_getElem? (i := 1) rfl)
theorem wd_2 {Z : State} {a0 : Array Value} (hw : ∀ d ∈ tables_1, d.before a0 Z = true) : (Jvm.Cond.static ({ cls := "com/example/bidwright/bidwright/rules/TermStricterPinLaw", name := "pick", desc := "(I)Lcom/example/bidwright/bidwright/rules/Term;" } : Jvm.MethodName)).before a0 Z = true := hw _ (List.mem_of_getElem? (i := 2) rfl)
theorem wd_3 {Z : State} {a0 : Array Value} (hw : ∀ d ∈ tables_1, d.before a0 Z = true) : (Jvm.Cond.initialized "com/example/bidwright/bidwright/rules/TermStricterPinLaw").before a0 Z = true := hw _ (List.mem_of_getElem? (i := 3) rfl)
theorem wd_4 {Z : State} {a0 : Array Value} (hw : ∀ d ∈ tables_1, d.before a0 Z = true) : (Jvm.Cond.code ({ cls := "com/example/bidwright/bidwright/rules/TermStricterPinLaw", name := "pick", desc := "(I)Lcom/example/bidwright/bidwright/rules/Term;" } : Jvm.MethodName) method_2_code (1 : Nat) (Option.some (Jvm.ClassFile.FieldType.object "com/example/bidwright/bidwright/rules/Term"))).before a0 Z = true := hw _ (List.mem_of_getElem? (i := 4) rfl)
theorem wd_5 {Z : State} {a0 : Array Value} (hw : ∀ d ∈ tables_1, d.before a0 Z = true) : (Jvm.Cond.fieldLink "com/example/bidwright/bidwright/rules/TermStricterPinLaw" (7 : Nat) "com/example/bidwright/bidwright/rules/Term" "INVITE" "Lcom/example/bidwright/bidwright/rules/Term;").before a0 Z = true := hw _ (List.mem_of_getElem? (i := 5) rfl)
theorem wd_6 {Z : State} {a0 : Array Value} (hw : ∀ d ∈ tables_1, d.before a0 Z = true) : (Jvm.Cond.initialized "com/example/bidwright/bidwright/rules/Term").before a0 Z = true := hw _ (List.mem_of_getElem? (i := 6) rfl)
theorem wd_7 {Z : State} {a0 : Array Value} (hw : ∀ d ∈ tables_1, d.before a0 Z = true) : (Jvm.Cond.laysStatic "com/example/bidwright/bidwright/rules/Term" "INVITE" "Lcom/example/bidwright/bidwright/rules/Term;").before a0 Z = true := hw _ (List.mem_of_getElem? (i := 7) rfl)
theorem wd_8 {Z : State} {a0 : Array Value} (hw : ∀ d ∈ tables_1, d.before a0 Z = true) : (Jvm.Cond.methodLink "com/example/bidwright/bidwright/rules/TermStricterPinLaw" (35 : Nat) ({ cls := "com/example/bidwright/bidwright/rules/Term", name := "stricter", desc := "(II)I" } : Jvm.MethodName)).before a0 Z = true := hw _ (List.mem_of_getElem? (i := 8) rfl)
theorem wd_9 {Z : State} {a0 : Array Value} (hw : ∀ d ∈ tables_1, d.before a0 Z = true) : (Jvm.Cond.declares ({ cls := "com/example/bidwright/bidwright/rules/Term", name := "stricter", desc := "(II)I" } : Jvm.MethodName)).before a0 Z = true := hw _ (List.mem_of_getElem? (i := 9) rfl)
theorem wd_10 {Z : State} {a0 : Array Value} (hw : ∀ d ∈ tables_1, d.before a0 Z = true) : (Jvm.Cond.instanceMethod ({ cls := "com/example/bidwright/bidwright/rules/Term", name := "stricter", desc := "(II)I" } : Jvm.MethodName)).before a0 Z = true := hw _ (List.mem_of_getElem? (i := 10) rfl)
theorem wd_11 {Z : State} {a0 : Array Value} (hw : ∀ d ∈ tables_1, d.before a0 Z = true) : (Jvm.Cond.selects "com/example/bidwright/bidwright/rules/Term" ({ cls := "com/example/bidwright/bidwright/rules/Term", name := "stricter", desc := "(II)I" } : Jvm.MethodName) ({ cls := "com/example/bidwright/bidwright/rules/Term", name := "stricter", desc := "(II)I" } : Jvm.MethodName)).before a0 Z = true := hw _ (List.mem_of_getElem? (i := 11) rfl)
theorem wd_12 {Z : State} {a0 : Array Value} (hw : ∀ d ∈ tables_1, d.before a0 Z = true) : (Jvm.Cond.code ({ cls := "com/example/bidwright/bidwright/rules/Term", name := "stricter", desc := "(II)I" } : Jvm.MethodName) prog_70_method_6_code (3 : Nat) (Option.some Jvm.ClassFile.FieldType.int)).before a0 Z = true := hw _ (List.mem_of_getElem? (i := 12) rfl)
theorem wd_13 {Z : State} {a0 : Array Value} (hw : ∀ d ∈ tables_1, d.before a0 Z = true) : (Jvm.Cond.fieldLink "com/example/bidwright/bidwright/rules/Term" (48 : Nat) "com/example/bidwright/bidwright/rules/Term" "atMost" "Z").before a0 Z = true := hw _ (List.mem_of_getElem? (i := 13) rfl)
theorem wd_15 {Z : State} {a0 : Array Value} (hw : ∀ d ∈ tables_1, d.before a0 Z = true) : (Jvm.Cond.methodLink "com/example/bidwright/bidwright/rules/Term" (58 : Nat) ({ cls := "java/lang/Math", name := "max", desc := "(II)I" } : Jvm.MethodName)).before a0 Z = true := hw _ (List.mem_of_getElem? (i := 15) rfl)
theorem wd_16 {Z : State} {a0 : Array Value} (hw : ∀ d ∈ tables_1, d.before a0 Z = true) : (Jvm.Cond.static ({ cls := "java/lang/Math", name := "max", desc := "(II)I" } : Jvm.MethodName)).before a0 Z = true := hw _ (List.mem_of_getElem? (i := 16) rfl)
theorem wd_17 {Z : State} {a0 : Array Value} (hw : ∀ d ∈ tables_1, d.before a0 Z = true) : (Jvm.Cond.initialized "java/lang/Math").before a0 Z = true := hw _ (List.mem_of_getElem? (i := 17) rfl)
theorem wd_18 {Z : State} {a0 : Array Value} (hw : ∀ d ∈ tables_1, d.before a0 Z = true) : (Jvm.Cond.code ({ cls := "java/lang/Math", name := "max", desc := "(II)I" } : Jvm.MethodName) jdk_29_method_65_code (2 : Nat) (Option.some Jvm.ClassFile.FieldType.int)).before a0 Z = true := hw _ (List.mem_of_getElem? (i := 18) rfl)
theorem wd_19 {Z : State} {a0 : Array Value} (hw : ∀ d ∈ tables_1, d.before a0 Z = true) : (Jvm.Cond.fieldLink "com/example/bidwright/bidwright/rules/TermStricterPinLaw" (13 : Nat) "com/example/bidwright/bidwright/rules/Term" "MAIL_DAYS" "Lcom/example/bidwright/bidwright/rules/Term;").before a0 Z = true := hw _ (List.mem_of_getElem? (i := 19) rfl)
theorem wd_20 {Z : State} {a0 : Array Value} (hw : ∀ d ∈ tables_1, d.before a0 Z = true) : (Jvm.Cond.laysStatic "com/example/bidwright/bidwright/rules/Term" "MAIL_DAYS" "Lcom/example/bidwright/bidwright/rules/Term;").before a0 Z = true := hw _ (List.mem_of_getElem? (i := 20) rfl)
theorem wd_21 {Z : State} {a0 : Array Value} (hw : ∀ d ∈ tables_1, d.before a0 Z = true) : (Jvm.Cond.fieldLink "com/example/bidwright/bidwright/rules/TermStricterPinLaw" (16 : Nat) "com/example/bidwright/bidwright/rules/Term" "PUBLICATIONS" "Lcom/example/bidwright/bidwright/rules/Term;").before a0 Z = true := hw _ (List.mem_of_getElem? (i := 21) rfl)
theorem wd_22 {Z : State} {a0 : Array Value} (hw : ∀ d ∈ tables_1, d.before a0 Z = true) : (Jvm.Cond.laysStatic "com/example/bidwright/bidwright/rules/Term" "PUBLICATIONS" "Lcom/example/bidwright/bidwright/rules/Term;").before a0 Z = true := hw _ (List.mem_of_getElem? (i := 22) rfl)
theorem wd_23 {Z : State} {a0 : Array Value} (hw : ∀ d ∈ tables_1, d.before a0 Z = true) : (Jvm.Cond.fieldLink "com/example/bidwright/bidwright/rules/TermStricterPinLaw" (25 : Nat) "com/example/bidwright/bidwright/rules/Term" "FIRST_NOTICE_MAX_DAYS" "Lcom/example/bidwright/bidwright/rules/Term;").before a0 Z = true := hw _ (List.mem_of_getElem? (i := 23) rfl)
theorem wd_24 {Z : State} {a0 : Array Value} (hw : ∀ d ∈ tables_1, d.before a0 Z = true) : (Jvm.Cond.laysStatic "com/example/bidwright/bidwright/rules/Term" "FIRST_NOTICE_MAX_DAYS" "Lcom/example/bidwright/bidwright/rules/Term;").before a0 Z = true := hw _ (List.mem_of_getElem? (i := 24) rfl)
theorem wd_25 {Z : State} {a0 : Array Value} (hw : ∀ d ∈ tables_1, d.before a0 Z = true) : (Jvm.Cond.methodLink "com/example/bidwright/bidwright/rules/Term" (52 : Nat) ({ cls := "java/lang/Math", name := "min", desc := "(II)I" } : Jvm.MethodName)).before a0 Z = true := hw _ (List.mem_of_getElem? (i := 25) rfl)
theorem wd_26 {Z : State} {a0 : Array Value} (hw : ∀ d ∈ tables_1, d.before a0 Z = true) : (Jvm.Cond.static ({ cls := "java/lang/Math", name := "min", desc := "(II)I" } : Jvm.MethodName)).before a0 Z = true := hw _ (List.mem_of_getElem? (i := 26) rfl)
theorem wd_27 {Z : State} {a0 : Array Value} (hw : ∀ d ∈ tables_1, d.before a0 Z = true) : (Jvm.Cond.code ({ cls := "java/lang/Math", name := "min", desc := "(II)I" } : Jvm.MethodName) jdk_29_method_69_code (2 : Nat) (Option.some Jvm.ClassFile.FieldType.int)).before a0 Z = true := hw _ (List.mem_of_getElem? (i := 27) rfl)
theorem wd_28 {Z : State} {a0 : Array Value} (hw : ∀ d ∈ tables_1, d.before a0 Z = true) : (Jvm.Cond.fieldLink "com/example/bidwright/bidwright/rules/TermStricterPinLaw" (19 : Nat) "com/example/bidwright/bidwright/rules/Term" "DAYS_APART" "Lcom/example/bidwright/bidwright/rules/Term;").before a0 Z = true := hw _ (List.mem_of_getElem? (i := 28) rfl)
theorem wd_29 {Z : State} {a0 : Array Value} (hw : ∀ d ∈ tables_1, d.before a0 Z = true) : (Jvm.Cond.laysStatic "com/example/bidwright/bidwright/rules/Term" "DAYS_APART" "Lcom/example/bidwright/bidwright/rules/Term;").before a0 Z = true := hw _ (List.mem_of_getElem? (i := 29) rfl)
theorem wd_30 {Z : State} {a0 : Array Value} (hw : ∀ d ∈ tables_1, d.before a0 Z = true) : (Jvm.Cond.fieldLink "com/example/bidwright/bidwright/rules/TermStricterPinLaw" (22 : Nat) "com/example/bidwright/bidwright/rules/Term" "DAYS_BEFORE_OPENING" "Lcom/example/bidwright/bidwright/rules/Term;").before a0 Z = true := hw _ (List.mem_of_getElem? (i := 30) rfl)
theorem wd_31 {Z : State} {a0 : Array Value} (hw : ∀ d ∈ tables_1, d.before a0 Z = true) : (Jvm.Cond.laysStatic "com/example/bidwright/bidwright/rules/Term" "DAYS_BEFORE_OPENING" "Lcom/example/bidwright/bidwright/rules/Term;").before a0 Z = true := hw _ (List.mem_of_getElem? (i := 31) rfl)
theorem pd_0 : parseMethodDescriptor "(II)I" = some ⟨[.int, .int], some .int⟩ := by decide +kernel
theorem pd_1 : parseMethodDescriptor "(I)Lcom/example/bidwright/bidwright/rules/Term;" = some ⟨[.int], some (.object "com/example/bidwright/bidwright/rules/Term")⟩ := by decide +kernel
theorem dc_jdk_29_method_65_code_0 : decode jdk_29_method_65_code 0 = .ok (.iload_n 0, 1) := by decide +kernel
theorem dc_jdk_29_method_65_code_1 : decode jdk_29_method_65_code 1 = .ok (.iload_n 1, 1) := by decide +kernel
theorem dc_jdk_29_method_65_code_2 : decode jdk_29_method_65_code 2 = .ok (.if_icmp .lt 7, 3) := by decide +kernel
theorem dc_jdk_29_method_65_code_5 : decode jdk_29_method_65_code 5 = .ok (.iload_n 0, 1) := by decide +kernel
theorem dc_jdk_29_method_65_code_6 : decode jdk_29_method_65_code 6 = .ok (.goto 4, 3) := by decide +kernel
theorem dc_jdk_29_method_65_code_9 : decode jdk_29_method_65_code 9 = .ok (.iload_n 1, 1) := by decide +kernel
theorem dc_jdk_29_method_65_code_10 : decode jdk_29_method_65_code 10 = .ok (.ireturn, 1) := by decide +kernel
theorem dc_jdk_29_method_69_code_0 : decode jdk_29_method_69_code 0 = .ok (.iload_n 0, 1) := by decide +kernel
theorem dc_jdk_29_method_69_code_1 : decode jdk_29_method_69_code 1 = .ok (.iload_n 1, 1) := by decide +kernel
theorem dc_jdk_29_method_69_code_2 : decode jdk_29_method_69_code 2 = .ok (.if_icmp .gt 7, 3) := by decide +kernel
theorem dc_jdk_29_method_69_code_5 : decode jdk_29_method_69_code 5 = .ok (.iload_n 0, 1) := by decide +kernel
theorem dc_jdk_29_method_69_code_6 : decode jdk_29_method_69_code 6 = .ok (.goto 4, 3) := by decide +kernel
theorem dc_jdk_29_method_69_code_9 : decode jdk_29_method_69_code 9 = .ok (.iload_n 1, 1) := by decide +kernel
theorem dc_jdk_29_method_69_code_10 : decode jdk_29_method_69_code 10 = .ok (.ireturn, 1) := by decide +kernel
theorem dc_method_2_code_0 : decode method_2_code 0 = .ok (.iload_n 0, 1) := by decide +kernel
theorem dc_method_2_code_1 : decode method_2_code 1 = .ok (.ifCond .ne 7, 3) := by decide +kernel
theorem dc_method_2_code_4 : decode method_2_code 4 = .ok (.getstatic 7, 3) := by decide +kernel
theorem dc_method_2_code_7 : decode method_2_code 7 = .ok (.areturn, 1) := by decide +kernel
theorem dc_method_2_code_8 : decode method_2_code 8 = .ok (.iload_n 0, 1) := by decide +kernel
theorem dc_method_2_code_9 : decode method_2_code 9 = .ok (.iconst 1, 1) := by decide +kernel
theorem dc_method_2_code_10 : decode method_2_code 10 = .ok (.if_icmp .ne 7, 3) := by decide +kernel
theorem dc_method_2_code_13 : decode method_2_code 13 = .ok (.getstatic 13, 3) := by decide +kernel
theorem dc_method_2_code_16 : decode method_2_code 16 = .ok (.areturn, 1) := by decide +kernel
theorem dc_method_2_code_17 : decode method_2_code 17 = .ok (.iload_n 0, 1) := by decide +kernel
theorem dc_method_2_code_18 : decode method_2_code 18 = .ok (.iconst 2, 1) := by decide +kernel
theorem dc_method_2_code_19 : decode method_2_code 19 = .ok (.if_icmp .ne 7, 3) := by decide +kernel
theorem dc_method_2_code_22 : decode method_2_code 22 = .ok (.getstatic 16, 3) := by decide +kernel
theorem dc_method_2_code_25 : decode method_2_code 25 = .ok (.areturn, 1) := by decide +kernel
theorem dc_method_2_code_26 : decode method_2_code 26 = .ok (.iload_n 0, 1) := by decide +kernel
theorem dc_method_2_code_27 : decode method_2_code 27 = .ok (.iconst 3, 1) := by decide +kernel
theorem dc_method_2_code_28 : decode method_2_code 28 = .ok (.if_icmp .ne 7, 3) := by decide +kernel
theorem dc_method_2_code_31 : decode method_2_code 31 = .ok (.getstatic 19, 3) := by decide +kernel
theorem dc_method_2_code_34 : decode method_2_code 34 = .ok (.areturn, 1) := by decide +kernel
theorem dc_method_2_code_35 : decode method_2_code 35 = .ok (.iload_n 0, 1) := by decide +kernel
theorem dc_method_2_code_36 : decode method_2_code 36 = .ok (.iconst 4, 1) := by decide +kernel
theorem dc_method_2_code_37 : decode method_2_code 37 = .ok (.if_icmp .ne 7, 3) := by decide +kernel
theorem dc_method_2_code_40 : decode method_2_code 40 = .ok (.getstatic 22, 3) := by decide +kernel
theorem dc_method_2_code_43 : decode method_2_code 43 = .ok (.areturn, 1) := by decide +kernel
theorem dc_method_2_code_44 : decode method_2_code 44 = .ok (.getstatic 25, 3) := by decide +kernel
theorem dc_method_2_code_47 : decode method_2_code 47 = .ok (.areturn, 1) := by decide +kernel
theorem dc_prog_70_method_6_code_0 : decode prog_70_method_6_code 0 = .ok (.aload_n 0, 1) := by decide +kernel
theorem dc_prog_70_method_6_code_1 : decode prog_70_method_6_code 1 = .ok (.getfield 48, 3) := by decide +kernel
theorem dc_prog_70_method_6_code_4 : decode prog_70_method_6_code 4 = .ok (.ifCond .eq 11, 3) := by decide +kernel
theorem dc_prog_70_method_6_code_7 : decode prog_70_method_6_code 7 = .ok (.iload_n 1, 1) := by decide +kernel
theorem dc_prog_70_method_6_code_8 : decode prog_70_method_6_code 8 = .ok (.iload_n 2, 1) := by decide +kernel
theorem dc_prog_70_method_6_code_9 : decode prog_70_method_6_code 9 = .ok (.invokestatic 52, 3) := by decide +kernel
theorem dc_prog_70_method_6_code_12 : decode prog_70_method_6_code 12 = .ok (.goto 8, 3) := by decide +kernel
theorem dc_prog_70_method_6_code_15 : decode prog_70_method_6_code 15 = .ok (.iload_n 1, 1) := by decide +kernel
theorem dc_prog_70_method_6_code_16 : decode prog_70_method_6_code 16 = .ok (.iload_n 2, 1) := by decide +kernel
theorem dc_prog_70_method_6_code_17 : decode prog_70_method_6_code 17 = .ok (.invokestatic 58, 3) := by decide +kernel
theorem dc_prog_70_method_6_code_20 : decode prog_70_method_6_code 20 = .ok (.ireturn, 1) := by decide +kernel
theorem own_eqI {args : Array Value} {first s : State} {o : Option Outcome} {idx : List Nat} {t : Term} {k : Int32} (h : (Jvm.Cond.eq t (.int k)).value args first o s idx = some true) : t.eval args first o idx s = some (.int k) := by
  simp only [Cond.value, Term.eval] at h
  cases ht : t.eval args first o idx s with
  | none => simp [ht] at h
  | some x => cases x <;> simp [ht] at h ⊢; exact h
def En_INVITE (Z : State) (h : Heap) (a : Addr) : Prop := Sta Z h "com/example/bidwright/bidwright/rules/Term" "INVITE" "Lcom/example/bidwright/bidwright/rules/Term;" (.ref a) ∧ Exa Z h a "com/example/bidwright/bidwright/rules/Term" ∧ Fld Z h a "com/example/bidwright/bidwright/rules/Term" "atMost" "Z" (.int (0 : Int32))
theorem En_INVITE.ext {Z : State} {h h' : Heap} {a : Addr} (F : En_INVITE Z h a) (E : Ext h h') : En_INVITE Z h' a := ⟨F.1.ext E, F.2.1.ext E, F.2.2.ext E⟩
def En_MAIL_DAYS (Z : State) (h : Heap) (a : Addr) : Prop := Sta Z h "com/example/bidwright/bidwright/rules/Term" "MAIL_DAYS" "Lcom/example/bidwright/bidwright/rules/Term;" (.ref a) ∧ Exa Z h a "com/example/bidwright/bidwright/rules/Term" ∧ Fld Z h a "com/example/bidwright/bidwright/rules/Term" "atMost" "Z" (.int (0 : Int32))
theorem En_MAIL_DAYS.ext {Z : State} {h h' : Heap} {a : Addr} (F : En_MAIL_DAYS Z h a) (E : Ext h h') : En_MAIL_DAYS Z h' a := ⟨F.1.ext E, F.2.1.ext E, F.2.2.ext E⟩
def En_PUBLICATIONS (Z : State) (h : Heap) (a : Addr) : Prop := Sta Z h "com/example/bidwright/bidwright/rules/Term" "PUBLICATIONS" "Lcom/example/bidwright/bidwright/rules/Term;" (.ref a) ∧ Exa Z h a "com/example/bidwright/bidwright/rules/Term" ∧ Fld Z h a "com/example/bidwright/bidwright/rules/Term" "atMost" "Z" (.int (0 : Int32))
theorem En_PUBLICATIONS.ext {Z : State} {h h' : Heap} {a : Addr} (F : En_PUBLICATIONS Z h a) (E : Ext h h') : En_PUBLICATIONS Z h' a := ⟨F.1.ext E, F.2.1.ext E, F.2.2.ext E⟩
def En_FIRST_NOTICE_MAX_DAYS (Z : State) (h : Heap) (a : Addr) : Prop := Sta Z h "com/example/bidwright/bidwright/rules/Term" "FIRST_NOTICE_MAX_DAYS" "Lcom/example/bidwright/bidwright/rules/Term;" (.ref a) ∧ Exa Z h a "com/example/bidwright/bidwright/rules/Term" ∧ Fld Z h a "com/example/bidwright/bidwright/rules/Term" "atMost" "Z" (.int (1 : Int32))
theorem En_FIRST_NOTICE_MAX_DAYS.ext {Z : State} {h h' : Heap} {a : Addr} (F : En_FIRST_NOTICE_MAX_DAYS Z h a) (E : Ext h h') : En_FIRST_NOTICE_MAX_DAYS Z h' a := ⟨F.1.ext E, F.2.1.ext E, F.2.2.ext E⟩
def En_DAYS_APART (Z : State) (h : Heap) (a : Addr) : Prop := Sta Z h "com/example/bidwright/bidwright/rules/Term" "DAYS_APART" "Lcom/example/bidwright/bidwright/rules/Term;" (.ref a) ∧ Exa Z h a "com/example/bidwright/bidwright/rules/Term" ∧ Fld Z h a "com/example/bidwright/bidwright/rules/Term" "atMost" "Z" (.int (0 : Int32))
theorem En_DAYS_APART.ext {Z : State} {h h' : Heap} {a : Addr} (F : En_DAYS_APART Z h a) (E : Ext h h') : En_DAYS_APART Z h' a := ⟨F.1.ext E, F.2.1.ext E, F.2.2.ext E⟩
def En_DAYS_BEFORE_OPENING (Z : State) (h : Heap) (a : Addr) : Prop := Sta Z h "com/example/bidwright/bidwright/rules/Term" "DAYS_BEFORE_OPENING" "Lcom/example/bidwright/bidwright/rules/Term;" (.ref a) ∧ Exa Z h a "com/example/bidwright/bidwright/rules/Term" ∧ Fld Z h a "com/example/bidwright/bidwright/rules/Term" "atMost" "Z" (.int (0 : Int32))
theorem En_DAYS_BEFORE_OPENING.ext {Z : State} {h h' : Heap} {a : Addr} (F : En_DAYS_BEFORE_OPENING Z h a) (E : Ext h h') : En_DAYS_BEFORE_OPENING Z h' a := ⟨F.1.ext E, F.2.1.ext E, F.2.2.ext E⟩
def am (i : Int32) : Int32 := if i = 5 then 1 else 0
theorem fldEq {Z : State} {h : Heap} {a : Addr} {O n d : String} {v w : Int32} (F : Fld Z h a O n d (.int v)) (e : w = v) : Fld Z h a O n d (.int w) := e ▸ F
theorem own_ne {i k : Int32} {d : Int} (h : ¬ i = k) (hk : k.toInt = d) : i.toInt ≠ d := fun q => h (Int32.toInt_inj.mp (q.trans hk.symm))
theorem own_mask (x : Int32) : 0 ≤ (x &&& 2147483647).toInt := (c_and x 2147483647 (by decide)).1
theorem own_rem (x k : Int32) (d : Int) (hk : k.toInt = d) (hd : 0 < d) : 0 ≤ ((x &&& 2147483647) % k).toInt ∧ ((x &&& 2147483647) % k).toInt < d := by
  have h := (c_irem (x &&& 2147483647) k d hk).1 (own_mask x)
  rw [h]
  exact ⟨Int.emod_nonneg _ (by omega), Int.emod_lt_of_pos _ hd⟩
set_option maxRecDepth 65536 in
set_option maxHeartbeats 4000000 in
theorem pick_met (l : Launch) (Z : State) (a0 : Array Value) (hw : ∀ d ∈ tables_1, d.before a0 Z = true) (n0 : Nat) (h : Heap) (O : Old Z n0 h) {a_INVITE : Addr} (EnINVITE : En_INVITE Z h a_INVITE) {a_MAIL_DAYS : Addr} (EnMAIL_DAYS : En_MAIL_DAYS Z h a_MAIL_DAYS) {a_PUBLICATIONS : Addr} (EnPUBLICATIONS : En_PUBLICATIONS Z h a_PUBLICATIONS) {a_FIRST_NOTICE_MAX_DAYS : Addr} (EnFIRST_NOTICE_MAX_DAYS : En_FIRST_NOTICE_MAX_DAYS Z h a_FIRST_NOTICE_MAX_DAYS) {a_DAYS_APART : Addr} (EnDAYS_APART : En_DAYS_APART Z h a_DAYS_APART) {a_DAYS_BEFORE_OPENING : Addr} (EnDAYS_BEFORE_OPENING : En_DAYS_BEFORE_OPENING Z h a_DAYS_BEFORE_OPENING) (i : Int32) (hi : 0 ≤ i.toInt ∧ i.toInt < 6) :
    Met l Z n0 (⟨"com/example/bidwright/bidwright/rules/TermStricterPinLaw", "pick", "(I)Lcom/example/bidwright/bidwright/rules/Term;"⟩ : MethodName) method_2_code 1 (some (.object "com/example/bidwright/bidwright/rules/Term")) [] ({ frames := 0, cells := 0, slots := 0, locals := 0 } : Room) #[(.int i)] h (fun v h' => ∃ a, v = some (.ref a) ∧ Exa Z h a "com/example/bidwright/bidwright/rules/Term" ∧ Fld Z h a "com/example/bidwright/bidwright/rules/Term" "atMost" "Z" (.int (am i)) ∧ h' = h) := by
  refine met_of (Ls := #[(.val (.int i))]) (by decide +kernel) (fun m => by first | rfl | (simp [entryFrame, mkF, argsToLocals, Value.category]; done)) O ?_
  intro p e s m below meth cd C
  refine go_iloadN C (pc' := 1) dc_method_2_code_0 rfl rfl ?_
  by_cases hc1 : i = 0
  · refine go_ifNo C (pc' := 4) dc_method_2_code_1 ((if0 _ _).trans (teq hc1).2) rfl ?_
    refine go_getS C (pc' := 7) (host := "") (Or.inl (wd_5 hw)) Via.refl EnINVITE.1 dc_method_2_code_4 rfl ?_
    exact go_retA C rfl rfl dc_method_2_code_7 (by decide) (by decide) ⟨_, rfl, EnINVITE.2.1, fldEq EnINVITE.2.2 (by rw [hc1]; decide), rfl⟩
  · refine go_ifYes C (pc' := 8) dc_method_2_code_1 ((if0 _ _).trans (feq hc1).2) (by decide) (by decide) ?_
    refine go_iloadN C (pc' := 9) dc_method_2_code_8 rfl rfl ?_
    refine go_iconst C (pc' := 10) dc_method_2_code_9 (z := (1 : Int32)) (by decide) rfl ?_
    by_cases hc2 : i = (1 : Int32)
    · refine go_icmpNo C (pc' := 13) dc_method_2_code_10 (teq hc2).2 rfl ?_
      refine go_getS C (pc' := 16) (host := "") (Or.inl (wd_19 hw)) Via.refl EnMAIL_DAYS.1 dc_method_2_code_13 rfl ?_
      exact go_retA C rfl rfl dc_method_2_code_16 (by decide) (by decide) ⟨_, rfl, EnMAIL_DAYS.2.1, fldEq EnMAIL_DAYS.2.2 (by rw [hc2]; decide), rfl⟩
    · refine go_icmpYes C (pc' := 17) dc_method_2_code_10 (feq hc2).2 (by decide) (by decide) ?_
      refine go_iloadN C (pc' := 18) dc_method_2_code_17 rfl rfl ?_
      refine go_iconst C (pc' := 19) dc_method_2_code_18 (z := (2 : Int32)) (by decide) rfl ?_
      by_cases hc3 : i = (2 : Int32)
      · refine go_icmpNo C (pc' := 22) dc_method_2_code_19 (teq hc3).2 rfl ?_
        refine go_getS C (pc' := 25) (host := "") (Or.inl (wd_21 hw)) Via.refl EnPUBLICATIONS.1 dc_method_2_code_22 rfl ?_
        exact go_retA C rfl rfl dc_method_2_code_25 (by decide) (by decide) ⟨_, rfl, EnPUBLICATIONS.2.1, fldEq EnPUBLICATIONS.2.2 (by rw [hc3]; decide), rfl⟩
      · refine go_icmpYes C (pc' := 26) dc_method_2_code_19 (feq hc3).2 (by decide) (by decide) ?_
        refine go_iloadN C (pc' := 27) dc_method_2_code_26 rfl rfl ?_
        refine go_iconst C (pc' := 28) dc_method_2_code_27 (z := (3 : Int32)) (by decide) rfl ?_
        by_cases hc4 : i = (3 : Int32)
        · refine go_icmpNo C (pc' := 31) dc_method_2_code_28 (teq hc4).2 rfl ?_
          refine go_getS C (pc' := 34) (host := "") (Or.inl (wd_28 hw)) Via.refl EnDAYS_APART.1 dc_method_2_code_31 rfl ?_
          exact go_retA C rfl rfl dc_method_2_code_34 (by decide) (by decide) ⟨_, rfl, EnDAYS_APART.2.1, fldEq EnDAYS_APART.2.2 (by rw [hc4]; decide), rfl⟩
        · refine go_icmpYes C (pc' := 35) dc_method_2_code_28 (feq hc4).2 (by decide) (by decide) ?_
          refine go_iloadN C (pc' := 36) dc_method_2_code_35 rfl rfl ?_
          refine go_iconst C (pc' := 37) dc_method_2_code_36 (z := (4 : Int32)) (by decide) rfl ?_
          by_cases hc5 : i = (4 : Int32)
          · refine go_icmpNo C (pc' := 40) dc_method_2_code_37 (teq hc5).2 rfl ?_
            refine go_getS C (pc' := 43) (host := "") (Or.inl (wd_30 hw)) Via.refl EnDAYS_BEFORE_OPENING.1 dc_method_2_code_40 rfl ?_
            exact go_retA C rfl rfl dc_method_2_code_43 (by decide) (by decide) ⟨_, rfl, EnDAYS_BEFORE_OPENING.2.1, fldEq EnDAYS_BEFORE_OPENING.2.2 (by rw [hc5]; decide), rfl⟩
          · refine go_icmpYes C (pc' := 44) dc_method_2_code_37 (feq hc5).2 (by decide) (by decide) ?_
            refine go_getS C (pc' := 47) (host := "") (Or.inl (wd_23 hw)) Via.refl EnFIRST_NOTICE_MAX_DAYS.1 dc_method_2_code_44 rfl ?_
            have e5 : i = 5 := Int32.toInt_inj.mp (by have n0 := own_ne hc1 (d := 0) (by decide); have n1 := own_ne hc2 (d := 1) (by decide); have n2 := own_ne hc3 (d := 2) (by decide); have n3 := own_ne hc4 (d := 3) (by decide); have n4 := own_ne hc5 (d := 4) (by decide); have z5 : (5 : Int32).toInt = 5 := (by decide); omega)
            exact go_retA C rfl rfl dc_method_2_code_47 (by decide) (by decide) ⟨_, rfl, EnFIRST_NOTICE_MAX_DAYS.2.1, fldEq EnFIRST_NOTICE_MAX_DAYS.2.2 (by rw [e5]; decide), rfl⟩
set_option maxRecDepth 65536 in
set_option maxHeartbeats 4000000 in
theorem max_met (l : Launch) (Z : State) (a0 : Array Value) (hw : ∀ d ∈ tables_1, d.before a0 Z = true) (n0 : Nat) (h : Heap) (O : Old Z n0 h) (a b r : Int32) (hr : (if a < b then b else a) = r) :
    Met l Z n0 (⟨"java/lang/Math", "max", "(II)I"⟩ : MethodName) jdk_29_method_65_code 2 (some .int) [] ({ frames := 0, cells := 0, slots := 0, locals := 0 } : Room) #[(.int a), (.int b)] h (fun v h' => v = some (.int r) ∧ h = h') := by
  refine met_of (Ls := #[(.val (.int a)), (.val (.int b))]) (by decide +kernel) (fun m => by first | rfl | (simp [entryFrame, mkF, argsToLocals, Value.category]; done)) O ?_
  intro p e s m below meth cd C
  refine go_iloadN C (pc' := 1) dc_jdk_29_method_65_code_0 rfl rfl ?_
  refine go_iloadN C (pc' := 2) dc_jdk_29_method_65_code_1 rfl rfl ?_
  by_cases hc1 : a < b
  · refine go_icmpYes C (pc' := 9) dc_jdk_29_method_65_code_2 (tlt hc1).1 (by decide) (by decide) ?_
    refine go_iloadN C (pc' := 10) dc_jdk_29_method_65_code_9 rfl rfl ?_
    exact go_retI C dc_jdk_29_method_65_code_10 (by decide) (by decide) ⟨congrArg (fun z => some (Value.int z)) ((if_pos hc1).symm.trans hr), rfl⟩
  · refine go_icmpNo C (pc' := 5) dc_jdk_29_method_65_code_2 (flt hc1).1 rfl ?_
    refine go_iloadN C (pc' := 6) dc_jdk_29_method_65_code_5 rfl rfl ?_
    refine go_goto C (pc' := 10) dc_jdk_29_method_65_code_6 (by decide) (by decide) ?_
    exact go_retI C dc_jdk_29_method_65_code_10 (by decide) (by decide) ⟨congrArg (fun z => some (Value.int z)) ((if_neg hc1).symm.trans hr), rfl⟩
set_option maxRecDepth 65536 in
set_option maxHeartbeats 4000000 in
theorem min_met (l : Launch) (Z : State) (a0 : Array Value) (hw : ∀ d ∈ tables_1, d.before a0 Z = true) (n0 : Nat) (h : Heap) (O : Old Z n0 h) (a b r : Int32) (hr : (if b < a then b else a) = r) :
    Met l Z n0 (⟨"java/lang/Math", "min", "(II)I"⟩ : MethodName) jdk_29_method_69_code 2 (some .int) [] ({ frames := 0, cells := 0, slots := 0, locals := 0 } : Room) #[(.int a), (.int b)] h (fun v h' => v = some (.int r) ∧ h = h') := by
  refine met_of (Ls := #[(.val (.int a)), (.val (.int b))]) (by decide +kernel) (fun m => by first | rfl | (simp [entryFrame, mkF, argsToLocals, Value.category]; done)) O ?_
  intro p e s m below meth cd C
  refine go_iloadN C (pc' := 1) dc_jdk_29_method_69_code_0 rfl rfl ?_
  refine go_iloadN C (pc' := 2) dc_jdk_29_method_69_code_1 rfl rfl ?_
  by_cases hc1 : b < a
  · refine go_icmpYes C (pc' := 9) dc_jdk_29_method_69_code_2 (tlt hc1).2.2.1 (by decide) (by decide) ?_
    refine go_iloadN C (pc' := 10) dc_jdk_29_method_69_code_9 rfl rfl ?_
    exact go_retI C dc_jdk_29_method_69_code_10 (by decide) (by decide) ⟨congrArg (fun z => some (Value.int z)) ((if_pos hc1).symm.trans hr), rfl⟩
  · refine go_icmpNo C (pc' := 5) dc_jdk_29_method_69_code_2 (flt hc1).2.2.1 rfl ?_
    refine go_iloadN C (pc' := 6) dc_jdk_29_method_69_code_5 rfl rfl ?_
    refine go_goto C (pc' := 10) dc_jdk_29_method_69_code_6 (by decide) (by decide) ?_
    exact go_retI C dc_jdk_29_method_69_code_10 (by decide) (by decide) ⟨congrArg (fun z => some (Value.int z)) ((if_neg hc1).symm.trans hr), rfl⟩
set_option maxRecDepth 65536 in
set_option maxHeartbeats 4000000 in
theorem strict_1 (l : Launch) (Z : State) (a0 : Array Value) (hw : ∀ d ∈ tables_1, d.before a0 Z = true) (n0 : Nat) (h : Heap) (O : Old Z n0 h) (t : Addr) (a b r : Int32) (F : Fld Z h t "com/example/bidwright/bidwright/rules/Term" "atMost" "Z" (.int (1 : Int32))) (hr : (if b < a then b else a) = r) :
    Met l Z n0 (⟨"com/example/bidwright/bidwright/rules/Term", "stricter", "(II)I"⟩ : MethodName) prog_70_method_6_code 3 (some .int) [] ({ frames := 1, cells := 0, slots := 0, locals := 13 } : Room) #[(.ref t), (.int a), (.int b)] h (fun v h' => v = some (.int r) ∧ h = h') := by
  refine met_of (Ls := #[(.val (.ref t)), (.val (.int a)), (.val (.int b))]) (by decide +kernel) (fun m => by first | rfl | (simp [entryFrame, mkF, argsToLocals, Value.category]; done)) O ?_
  intro p e s m below meth cd C
  refine go_aloadN C (pc' := 1) dc_prog_70_method_6_code_0 rfl rfl rfl ?_
  refine go_getF C (pc' := 4) (host := "") (Or.inl (wd_13 hw)) Via.refl F dc_prog_70_method_6_code_1 rfl ?_
  refine go_ifNo C (pc' := 7) dc_prog_70_method_6_code_4 (by decide) rfl ?_
  refine go_iloadN C (pc' := 8) dc_prog_70_method_6_code_7 rfl rfl ?_
  refine go_iloadN C (pc' := 9) dc_prog_70_method_6_code_8 rfl rfl ?_
  refine go_callS C (pc' := 12) (y' := (⟨"java/lang/Math", "min", "(II)I"⟩ : MethodName)) (wd_25 hw) (wd_26 hw) (min_met l Z a0 hw _ _ O a b r hr) (wd_27 hw) (wd_17 hw) (by decide) (by decide) (W := 0) (Nat.le_of_ble_eq_true rfl) (by decide) (by decide) (by decide) rfl (argsL := [(.int a), (.int b)]) (rest := []) pd_0 rfl rfl rfl dc_prog_70_method_6_code_9 rfl ?_
  rintro _ _ ⟨rfl, rfl⟩
  refine go_st (st' := [(.int r)]) rfl ?_
  refine go_goto C (pc' := 20) dc_prog_70_method_6_code_12 (by decide) (by decide) ?_
  exact go_retI C dc_prog_70_method_6_code_20 (by decide) (by decide) ⟨rfl, rfl⟩
set_option maxRecDepth 65536 in
set_option maxHeartbeats 4000000 in
theorem strict_0 (l : Launch) (Z : State) (a0 : Array Value) (hw : ∀ d ∈ tables_1, d.before a0 Z = true) (n0 : Nat) (h : Heap) (O : Old Z n0 h) (t : Addr) (a b r : Int32) (F : Fld Z h t "com/example/bidwright/bidwright/rules/Term" "atMost" "Z" (.int (0 : Int32))) (hr : (if a < b then b else a) = r) :
    Met l Z n0 (⟨"com/example/bidwright/bidwright/rules/Term", "stricter", "(II)I"⟩ : MethodName) prog_70_method_6_code 3 (some .int) [] ({ frames := 1, cells := 0, slots := 0, locals := 13 } : Room) #[(.ref t), (.int a), (.int b)] h (fun v h' => v = some (.int r) ∧ h = h') := by
  refine met_of (Ls := #[(.val (.ref t)), (.val (.int a)), (.val (.int b))]) (by decide +kernel) (fun m => by first | rfl | (simp [entryFrame, mkF, argsToLocals, Value.category]; done)) O ?_
  intro p e s m below meth cd C
  refine go_aloadN C (pc' := 1) dc_prog_70_method_6_code_0 rfl rfl rfl ?_
  refine go_getF C (pc' := 4) (host := "") (Or.inl (wd_13 hw)) Via.refl F dc_prog_70_method_6_code_1 rfl ?_
  refine go_ifYes C (pc' := 15) dc_prog_70_method_6_code_4 (by decide) (by decide) (by decide) ?_
  refine go_iloadN C (pc' := 16) dc_prog_70_method_6_code_15 rfl rfl ?_
  refine go_iloadN C (pc' := 17) dc_prog_70_method_6_code_16 rfl rfl ?_
  refine go_callS C (pc' := 20) (y' := (⟨"java/lang/Math", "max", "(II)I"⟩ : MethodName)) (wd_15 hw) (wd_16 hw) (max_met l Z a0 hw _ _ O a b r hr) (wd_18 hw) (wd_17 hw) (by decide) (by decide) (W := 0) (Nat.le_of_ble_eq_true rfl) (by decide) (by decide) (by decide) rfl (argsL := [(.int a), (.int b)]) (rest := []) pd_0 rfl rfl rfl dc_prog_70_method_6_code_17 rfl ?_
  rintro _ _ ⟨rfl, rfl⟩
  refine go_st (st' := [(.int r)]) rfl ?_
  exact go_retI C dc_prog_70_method_6_code_20 (by decide) (by decide) ⟨rfl, rfl⟩
set_option maxRecDepth 65536 in
set_option maxHeartbeats 40000000 in
theorem law_met (l : Launch) (Z : State) (a0 : Array Value) (hw : ∀ d ∈ tables_1, d.before a0 Z = true) (x0 : Int32) (x1 : Int32) (x2 : Int32) {a_INVITE : Addr} (EnINVITE : En_INVITE Z Z.heap a_INVITE) {a_MAIL_DAYS : Addr} (EnMAIL_DAYS : En_MAIL_DAYS Z Z.heap a_MAIL_DAYS) {a_PUBLICATIONS : Addr} (EnPUBLICATIONS : En_PUBLICATIONS Z Z.heap a_PUBLICATIONS) {a_FIRST_NOTICE_MAX_DAYS : Addr} (EnFIRST_NOTICE_MAX_DAYS : En_FIRST_NOTICE_MAX_DAYS Z Z.heap a_FIRST_NOTICE_MAX_DAYS) {a_DAYS_APART : Addr} (EnDAYS_APART : En_DAYS_APART Z Z.heap a_DAYS_APART) {a_DAYS_BEFORE_OPENING : Addr} (EnDAYS_BEFORE_OPENING : En_DAYS_BEFORE_OPENING Z Z.heap a_DAYS_BEFORE_OPENING)  :
    Met l Z Z.heap.size x code maxLocals ret tables_1 room_1 #[(.int x0), (.int x1), (.int x2)] Z.heap (fun v _ => v = some (.int (1 : Int32))) := by
  have O := Old.start Z
  refine met_of (Ls := #[(.val (.int x0)), (.val (.int x1)), (.val (.int x2)), .unset, .unset, .unset, .unset, .unset, .unset]) (by decide +kernel) (fun m => by first | rfl | (simp [entryFrame, mkF, argsToLocals, Value.category, maxLocals]; done)) O ?_
  intro p e s m below meth cd C
  refine go_iloadN C (pc' := 1) at_0 rfl rfl ?_
  refine go_ldcInt C (pc' := 3) (wd_0 hw) at_1 rfl ?_
  refine go_iand C (pc' := 4) at_3 rfl ?_
  refine go_bipush C (pc' := 6) at_4 (z := (6 : Int32)) (by decide) rfl ?_
  refine go_irem C (pc' := 7) at_6 (by decide) rfl ?_
  refine go_istoreN C (pc' := 8) at_7 (Ls' := #[(.val (.int x0)), (.val (.int x1)), (.val (.int x2)), (.val (.int ((x0 &&& (2147483647 : Int32)) % (6 : Int32)))), .unset, .unset, .unset, .unset, .unset]) rfl rfl ?_
  have hi := own_rem x0 6 6 (by decide) (by decide)
  generalize ((x0 &&& (2147483647 : Int32)) % (6 : Int32)) = i at hi ⊢
  refine go_iloadN C (pc' := 9) at_8 rfl rfl ?_
  refine go_callS C (pc' := 12) (y' := (⟨"com/example/bidwright/bidwright/rules/TermStricterPinLaw", "pick", "(I)Lcom/example/bidwright/bidwright/rules/Term;"⟩ : MethodName)) (wd_1 hw) (wd_2 hw) (pick_met l Z a0 hw _ _ O EnINVITE EnMAIL_DAYS EnPUBLICATIONS EnFIRST_NOTICE_MAX_DAYS EnDAYS_APART EnDAYS_BEFORE_OPENING i hi) (wd_4 hw) (wd_3 hw) (by decide) (by decide) (W := 0) (Nat.le_of_ble_eq_true rfl) (by decide) (by decide) (by decide) rfl (argsL := [(.int i)]) (rest := []) pd_1 rfl rfl rfl at_9 rfl ?_
  rintro _ _ ⟨t, rfl, Et, Ft, rfl⟩
  refine go_st (st' := [(.ref t)]) rfl ?_
  refine go_astore C (pc' := 14) at_12 rfl (Ls' := #[(.val (.int x0)), (.val (.int x1)), (.val (.int x2)), (.val (.int i)), (.val (.ref t)), .unset, .unset, .unset, .unset]) rfl rfl ?_
  refine go_iloadN C (pc' := 15) at_14 rfl rfl ?_
  refine go_iconst C (pc' := 16) at_15 (z := (5 : Int32)) (by decide) rfl ?_
  by_cases hc1 : i = (5 : Int32)
  · refine go_icmpNo C (pc' := 19) at_16 (teq hc1).2 rfl ?_
    have Ft' := fldEq Ft (w := (1 : Int32)) (by rw [hc1]; decide)
    refine go_iconst C (pc' := 20) at_19 (z := (1 : Int32)) (by decide) rfl ?_
    refine go_goto C (pc' := 24) at_20 (by decide) (by decide) ?_
    refine go_istore C (pc' := 26) at_24 (Ls' := #[(.val (.int x0)), (.val (.int x1)), (.val (.int x2)), (.val (.int i)), (.val (.ref t)), (.val (.int (1 : Int32))), .unset, .unset, .unset]) rfl rfl ?_
    by_cases hm2 : x2 < x1
    · skip
      refine go_aload C (pc' := 28) at_26 rfl rfl rfl ?_
      refine go_iloadN C (pc' := 29) at_28 rfl rfl ?_
      refine go_iloadN C (pc' := 30) at_29 rfl rfl ?_
      refine go_callV C (pc' := 33) (y' := (⟨"com/example/bidwright/bidwright/rules/Term", "stricter", "(II)I"⟩ : MethodName)) (wd_8 hw) (wd_9 hw) (wd_11 hw) (wd_10 hw) (strict_1 l Z a0 hw _ _ O t x1 x2 x2 Ft' (if_pos hm2)) (wd_12 hw) (wd_6 hw) (by decide) (by decide) (W := 0) (Nat.le_of_ble_eq_true rfl) (by decide) (by decide) (by decide) rfl Et (argsL := [(.int x1), (.int x2)]) (rest := []) pd_0 rfl rfl rfl at_30 rfl ?_
      rintro _ _ ⟨rfl, rfl⟩
      refine go_st (st' := [(.int x2)]) rfl ?_
      refine go_istore C (pc' := 35) at_33 (Ls' := #[(.val (.int x0)), (.val (.int x1)), (.val (.int x2)), (.val (.int i)), (.val (.ref t)), (.val (.int (1 : Int32))), (.val (.int x2)), .unset, .unset]) rfl rfl ?_
      refine go_iload C (pc' := 37) at_35 rfl rfl ?_
      refine go_iloadN C (pc' := 38) at_37 rfl rfl ?_
      refine go_icmpNo C (pc' := 41) at_38 (feq (fun q => by rw [q] at hm2; exact absurd hm2 Int32.lt_irrefl)).1 rfl ?_
      refine go_iload C (pc' := 43) at_41 rfl rfl ?_
      refine go_iloadN C (pc' := 44) at_43 rfl rfl ?_
      refine go_icmpNo C (pc' := 47) at_44 (teq (rfl : x2 = x2)).2 rfl ?_
      refine go_iconst C (pc' := 48) at_47 (z := (1 : Int32)) (by decide) rfl ?_
      refine go_goto C (pc' := 52) at_48 (by decide) (by decide) ?_
      refine go_istore C (pc' := 54) at_52 (Ls' := #[(.val (.int x0)), (.val (.int x1)), (.val (.int x2)), (.val (.int i)), (.val (.ref t)), (.val (.int (1 : Int32))), (.val (.int x2)), (.val (.int (1 : Int32))), .unset]) rfl rfl ?_
      refine go_iload C (pc' := 56) at_54 rfl rfl ?_
      refine go_ifNo C (pc' := 59) at_56 (by decide) rfl ?_
      refine go_iload C (pc' := 61) at_59 rfl rfl ?_
      refine go_iloadN C (pc' := 62) at_61 rfl rfl ?_
      refine go_icmpNo C (pc' := 65) at_62 (flt (Int32.lt_asymm hm2)).2.2.1 rfl ?_
      refine go_iload C (pc' := 67) at_65 rfl rfl ?_
      refine go_iloadN C (pc' := 68) at_67 rfl rfl ?_
      refine go_icmpNo C (pc' := 71) at_68 (flt Int32.lt_irrefl).2.2.1 rfl ?_
      refine go_iconst C (pc' := 72) at_71 (z := (1 : Int32)) (by decide) rfl ?_
      refine go_goto C (pc' := 76) at_72 (by decide) (by decide) ?_
      refine go_istore C (pc' := 78) at_76 (Ls' := #[(.val (.int x0)), (.val (.int x1)), (.val (.int x2)), (.val (.int i)), (.val (.ref t)), (.val (.int (1 : Int32))), (.val (.int x2)), (.val (.int (1 : Int32))), (.val (.int (1 : Int32)))]) rfl rfl ?_
      refine go_goto C (pc' := 100) at_78 (by decide) (by decide) ?_
      refine go_iload C (pc' := 102) at_100 rfl rfl ?_
      refine go_ifNo C (pc' := 105) at_102 (by decide) rfl ?_
      refine go_iload C (pc' := 107) at_105 rfl rfl ?_
      refine go_ifNo C (pc' := 110) at_107 (by decide) rfl ?_
      refine go_iconst C (pc' := 111) at_110 (z := (1 : Int32)) (by decide) rfl ?_
      refine go_goto C (pc' := 115) at_111 (by decide) (by decide) ?_
      exact go_retN C (by simp) (z' := (1 : Int32)) (by decide) at_115 (by decide) (by decide) rfl
    · skip
      refine go_aload C (pc' := 28) at_26 rfl rfl rfl ?_
      refine go_iloadN C (pc' := 29) at_28 rfl rfl ?_
      refine go_iloadN C (pc' := 30) at_29 rfl rfl ?_
      refine go_callV C (pc' := 33) (y' := (⟨"com/example/bidwright/bidwright/rules/Term", "stricter", "(II)I"⟩ : MethodName)) (wd_8 hw) (wd_9 hw) (wd_11 hw) (wd_10 hw) (strict_1 l Z a0 hw _ _ O t x1 x2 x1 Ft' (if_neg hm2)) (wd_12 hw) (wd_6 hw) (by decide) (by decide) (W := 0) (Nat.le_of_ble_eq_true rfl) (by decide) (by decide) (by decide) rfl Et (argsL := [(.int x1), (.int x2)]) (rest := []) pd_0 rfl rfl rfl at_30 rfl ?_
      rintro _ _ ⟨rfl, rfl⟩
      refine go_st (st' := [(.int x1)]) rfl ?_
      refine go_istore C (pc' := 35) at_33 (Ls' := #[(.val (.int x0)), (.val (.int x1)), (.val (.int x2)), (.val (.int i)), (.val (.ref t)), (.val (.int (1 : Int32))), (.val (.int x1)), .unset, .unset]) rfl rfl ?_
      refine go_iload C (pc' := 37) at_35 rfl rfl ?_
      refine go_iloadN C (pc' := 38) at_37 rfl rfl ?_
      refine go_icmpYes C (pc' := 47) at_38 (teq (rfl : x1 = x1)).1 (by decide) (by decide) ?_
      refine go_iconst C (pc' := 48) at_47 (z := (1 : Int32)) (by decide) rfl ?_
      refine go_goto C (pc' := 52) at_48 (by decide) (by decide) ?_
      refine go_istore C (pc' := 54) at_52 (Ls' := #[(.val (.int x0)), (.val (.int x1)), (.val (.int x2)), (.val (.int i)), (.val (.ref t)), (.val (.int (1 : Int32))), (.val (.int x1)), (.val (.int (1 : Int32))), .unset]) rfl rfl ?_
      refine go_iload C (pc' := 56) at_54 rfl rfl ?_
      refine go_ifNo C (pc' := 59) at_56 (by decide) rfl ?_
      refine go_iload C (pc' := 61) at_59 rfl rfl ?_
      refine go_iloadN C (pc' := 62) at_61 rfl rfl ?_
      refine go_icmpNo C (pc' := 65) at_62 (flt Int32.lt_irrefl).2.2.1 rfl ?_
      refine go_iload C (pc' := 67) at_65 rfl rfl ?_
      refine go_iloadN C (pc' := 68) at_67 rfl rfl ?_
      refine go_icmpNo C (pc' := 71) at_68 (flt hm2).2.2.1 rfl ?_
      refine go_iconst C (pc' := 72) at_71 (z := (1 : Int32)) (by decide) rfl ?_
      refine go_goto C (pc' := 76) at_72 (by decide) (by decide) ?_
      refine go_istore C (pc' := 78) at_76 (Ls' := #[(.val (.int x0)), (.val (.int x1)), (.val (.int x2)), (.val (.int i)), (.val (.ref t)), (.val (.int (1 : Int32))), (.val (.int x1)), (.val (.int (1 : Int32))), (.val (.int (1 : Int32)))]) rfl rfl ?_
      refine go_goto C (pc' := 100) at_78 (by decide) (by decide) ?_
      refine go_iload C (pc' := 102) at_100 rfl rfl ?_
      refine go_ifNo C (pc' := 105) at_102 (by decide) rfl ?_
      refine go_iload C (pc' := 107) at_105 rfl rfl ?_
      refine go_ifNo C (pc' := 110) at_107 (by decide) rfl ?_
      refine go_iconst C (pc' := 111) at_110 (z := (1 : Int32)) (by decide) rfl ?_
      refine go_goto C (pc' := 115) at_111 (by decide) (by decide) ?_
      exact go_retN C (by simp) (z' := (1 : Int32)) (by decide) at_115 (by decide) (by decide) rfl
  · refine go_icmpYes C (pc' := 23) at_16 (feq hc1).2 (by decide) (by decide) ?_
    have Ft' := fldEq Ft (w := (0 : Int32)) (by simp only [am, if_neg hc1])
    refine go_iconst C (pc' := 24) at_23 (z := (0 : Int32)) (by decide) rfl ?_
    refine go_istore C (pc' := 26) at_24 (Ls' := #[(.val (.int x0)), (.val (.int x1)), (.val (.int x2)), (.val (.int i)), (.val (.ref t)), (.val (.int (0 : Int32))), .unset, .unset, .unset]) rfl rfl ?_
    by_cases hm3 : x1 < x2
    · skip
      refine go_aload C (pc' := 28) at_26 rfl rfl rfl ?_
      refine go_iloadN C (pc' := 29) at_28 rfl rfl ?_
      refine go_iloadN C (pc' := 30) at_29 rfl rfl ?_
      refine go_callV C (pc' := 33) (y' := (⟨"com/example/bidwright/bidwright/rules/Term", "stricter", "(II)I"⟩ : MethodName)) (wd_8 hw) (wd_9 hw) (wd_11 hw) (wd_10 hw) (strict_0 l Z a0 hw _ _ O t x1 x2 x2 Ft' (if_pos hm3)) (wd_12 hw) (wd_6 hw) (by decide) (by decide) (W := 0) (Nat.le_of_ble_eq_true rfl) (by decide) (by decide) (by decide) rfl Et (argsL := [(.int x1), (.int x2)]) (rest := []) pd_0 rfl rfl rfl at_30 rfl ?_
      rintro _ _ ⟨rfl, rfl⟩
      refine go_st (st' := [(.int x2)]) rfl ?_
      refine go_istore C (pc' := 35) at_33 (Ls' := #[(.val (.int x0)), (.val (.int x1)), (.val (.int x2)), (.val (.int i)), (.val (.ref t)), (.val (.int (0 : Int32))), (.val (.int x2)), .unset, .unset]) rfl rfl ?_
      refine go_iload C (pc' := 37) at_35 rfl rfl ?_
      refine go_iloadN C (pc' := 38) at_37 rfl rfl ?_
      refine go_icmpNo C (pc' := 41) at_38 (feq (fun q => by rw [q] at hm3; exact absurd hm3 Int32.lt_irrefl)).1 rfl ?_
      refine go_iload C (pc' := 43) at_41 rfl rfl ?_
      refine go_iloadN C (pc' := 44) at_43 rfl rfl ?_
      refine go_icmpNo C (pc' := 47) at_44 (teq (rfl : x2 = x2)).2 rfl ?_
      refine go_iconst C (pc' := 48) at_47 (z := (1 : Int32)) (by decide) rfl ?_
      refine go_goto C (pc' := 52) at_48 (by decide) (by decide) ?_
      refine go_istore C (pc' := 54) at_52 (Ls' := #[(.val (.int x0)), (.val (.int x1)), (.val (.int x2)), (.val (.int i)), (.val (.ref t)), (.val (.int (0 : Int32))), (.val (.int x2)), (.val (.int (1 : Int32))), .unset]) rfl rfl ?_
      refine go_iload C (pc' := 56) at_54 rfl rfl ?_
      refine go_ifYes C (pc' := 81) at_56 (by decide) (by decide) (by decide) ?_
      refine go_iload C (pc' := 83) at_81 rfl rfl ?_
      refine go_iloadN C (pc' := 84) at_83 rfl rfl ?_
      refine go_icmpNo C (pc' := 87) at_84 (flt (Int32.lt_asymm hm3)).1 rfl ?_
      refine go_iload C (pc' := 89) at_87 rfl rfl ?_
      refine go_iloadN C (pc' := 90) at_89 rfl rfl ?_
      refine go_icmpNo C (pc' := 93) at_90 (flt Int32.lt_irrefl).1 rfl ?_
      refine go_iconst C (pc' := 94) at_93 (z := (1 : Int32)) (by decide) rfl ?_
      refine go_goto C (pc' := 98) at_94 (by decide) (by decide) ?_
      refine go_istore C (pc' := 100) at_98 (Ls' := #[(.val (.int x0)), (.val (.int x1)), (.val (.int x2)), (.val (.int i)), (.val (.ref t)), (.val (.int (0 : Int32))), (.val (.int x2)), (.val (.int (1 : Int32))), (.val (.int (1 : Int32)))]) rfl rfl ?_
      refine go_iload C (pc' := 102) at_100 rfl rfl ?_
      refine go_ifNo C (pc' := 105) at_102 (by decide) rfl ?_
      refine go_iload C (pc' := 107) at_105 rfl rfl ?_
      refine go_ifNo C (pc' := 110) at_107 (by decide) rfl ?_
      refine go_iconst C (pc' := 111) at_110 (z := (1 : Int32)) (by decide) rfl ?_
      refine go_goto C (pc' := 115) at_111 (by decide) (by decide) ?_
      exact go_retN C (by simp) (z' := (1 : Int32)) (by decide) at_115 (by decide) (by decide) rfl
    · skip
      refine go_aload C (pc' := 28) at_26 rfl rfl rfl ?_
      refine go_iloadN C (pc' := 29) at_28 rfl rfl ?_
      refine go_iloadN C (pc' := 30) at_29 rfl rfl ?_
      refine go_callV C (pc' := 33) (y' := (⟨"com/example/bidwright/bidwright/rules/Term", "stricter", "(II)I"⟩ : MethodName)) (wd_8 hw) (wd_9 hw) (wd_11 hw) (wd_10 hw) (strict_0 l Z a0 hw _ _ O t x1 x2 x1 Ft' (if_neg hm3)) (wd_12 hw) (wd_6 hw) (by decide) (by decide) (W := 0) (Nat.le_of_ble_eq_true rfl) (by decide) (by decide) (by decide) rfl Et (argsL := [(.int x1), (.int x2)]) (rest := []) pd_0 rfl rfl rfl at_30 rfl ?_
      rintro _ _ ⟨rfl, rfl⟩
      refine go_st (st' := [(.int x1)]) rfl ?_
      refine go_istore C (pc' := 35) at_33 (Ls' := #[(.val (.int x0)), (.val (.int x1)), (.val (.int x2)), (.val (.int i)), (.val (.ref t)), (.val (.int (0 : Int32))), (.val (.int x1)), .unset, .unset]) rfl rfl ?_
      refine go_iload C (pc' := 37) at_35 rfl rfl ?_
      refine go_iloadN C (pc' := 38) at_37 rfl rfl ?_
      refine go_icmpYes C (pc' := 47) at_38 (teq (rfl : x1 = x1)).1 (by decide) (by decide) ?_
      refine go_iconst C (pc' := 48) at_47 (z := (1 : Int32)) (by decide) rfl ?_
      refine go_goto C (pc' := 52) at_48 (by decide) (by decide) ?_
      refine go_istore C (pc' := 54) at_52 (Ls' := #[(.val (.int x0)), (.val (.int x1)), (.val (.int x2)), (.val (.int i)), (.val (.ref t)), (.val (.int (0 : Int32))), (.val (.int x1)), (.val (.int (1 : Int32))), .unset]) rfl rfl ?_
      refine go_iload C (pc' := 56) at_54 rfl rfl ?_
      refine go_ifYes C (pc' := 81) at_56 (by decide) (by decide) (by decide) ?_
      refine go_iload C (pc' := 83) at_81 rfl rfl ?_
      refine go_iloadN C (pc' := 84) at_83 rfl rfl ?_
      refine go_icmpNo C (pc' := 87) at_84 (flt Int32.lt_irrefl).1 rfl ?_
      refine go_iload C (pc' := 89) at_87 rfl rfl ?_
      refine go_iloadN C (pc' := 90) at_89 rfl rfl ?_
      refine go_icmpNo C (pc' := 93) at_90 (flt hm3).1 rfl ?_
      refine go_iconst C (pc' := 94) at_93 (z := (1 : Int32)) (by decide) rfl ?_
      refine go_goto C (pc' := 98) at_94 (by decide) (by decide) ?_
      refine go_istore C (pc' := 100) at_98 (Ls' := #[(.val (.int x0)), (.val (.int x1)), (.val (.int x2)), (.val (.int i)), (.val (.ref t)), (.val (.int (0 : Int32))), (.val (.int x1)), (.val (.int (1 : Int32))), (.val (.int (1 : Int32)))]) rfl rfl ?_
      refine go_iload C (pc' := 102) at_100 rfl rfl ?_
      refine go_ifNo C (pc' := 105) at_102 (by decide) rfl ?_
      refine go_iload C (pc' := 107) at_105 rfl rfl ?_
      refine go_ifNo C (pc' := 110) at_107 (by decide) rfl ?_
      refine go_iconst C (pc' := 111) at_110 (z := (1 : Int32)) (by decide) rfl ?_
      refine go_goto C (pc' := 115) at_111 (by decide) (by decide) ?_
      exact go_retN C (by simp) (z' := (1 : Int32)) (by decide) at_115 (by decide) (by decide) rfl
set_option maxRecDepth 65536 in
set_option maxHeartbeats 40000000 in
theorem comes_1 {Post : Tables → Env → Array Value → State → Outcome → State → Prop} (hpost : ∀ tb e args s v u, (limb_1_1.after args s (.returned v) u = true ∧ limb_1_2.after args s (.returned v) u = true ∧ True) → FrameEnd s (.returned v) u (Jvm.fieldLocs frame_1_writes args s ++ Jvm.arrayLocs frame_1_arrays args s ++ Jvm.staticLocs frame_1_statics s) 0 0 → Post tb e args s (.returned v) u) :
    ArmFor flags0 classFile x code maxLocals ret World_1 tables_1 room_1 Calls_1 rest_1 Pre_1 Post := by
  intro l hfl _ _ p e ha hc hk s m args below hf hA hF happ hP
  obtain ⟨hcalls, hrest, hpre⟩ := hP
  obtain ⟨-, -, -, hnamed, -, -, -, hat⟩ := (Spec.applies_iff hf).mp happ
  obtain ⟨hg, hn⟩ := and_e (Cond.before_iff.mp (show (Jvm.Cond.and given_1 narrow_1).before args s = true from hpre))
  obtain ⟨hcount, g0⟩ := and_e hg
  obtain ⟨w0, w1, w2, rfl⟩ : ∃ w0 w1 w2 : Value, args = #[w0, w1, w2] := by
    have hs : args.size = 3 := by simpa [Cond.value, given_1] using hcount
    obtain ⟨L⟩ := args
    match L, hs with
    | [w0, w1, w2], _ => exact ⟨w0, w1, w2, rfl⟩
  have hw := fun d (hd : d ∈ tables_1) => atoms_spec (ws := Jvm.Cond.code x code maxLocals ret :: tables_1) hat d (List.mem_cons_of_mem _ hd)
  have hfit : Fit s := fun {y c} hc i hi => by
    obtain ⟨ha, rfl⟩ := Array.getElem?_eq_some_iff.mp hc
    have q := List.all_eq_true.mp ((Array.all_eq_true_iff_forall_mem.mp hF) _ (Array.getElem_mem ha)) i (List.mem_range.mpr hi)
    simpa [Array.getElem?_eq_getElem hi] using q
  obtain ⟨u0, g1⟩ := and_e g0
  obtain ⟨i0, e0⟩ := is_v u0
  obtain rfl : w0 = (.int i0) := Option.some.inj e0
  obtain ⟨u1, g2⟩ := and_e g1
  obtain ⟨i1, e1⟩ := is_v u1
  obtain rfl : w1 = (.int i1) := Option.some.inj e1
  obtain ⟨i2, e2⟩ := is_v g2
  obtain rfl : w2 = (.int i2) := Option.some.inj e2
  obtain ⟨q0, r0⟩ := and_e hn
  obtain ⟨q1, r1⟩ := and_e r0
  obtain ⟨q2, r2⟩ := and_e r1
  obtain ⟨q3, r3⟩ := and_e r2
  obtain ⟨q4, r4⟩ := and_e r3
  obtain ⟨q5, r5⟩ := and_e r4
  obtain ⟨q6, r6⟩ := and_e r5
  obtain ⟨q7, r7⟩ := and_e r6
  obtain ⟨q8, r8⟩ := and_e r7
  obtain ⟨q9, r9⟩ := and_e r8
  obtain ⟨q10, r10⟩ := and_e r9
  have q11 := r10
  obtain ⟨a_INVITE, v_INVITE⟩ := exa_v q0
  have EnINVITE : En_INVITE s s.heap a_INVITE := ⟨Sta.start v_INVITE (Or.inr ⟨(wd_6 hw), (wd_7 hw)⟩), Exa.start v_INVITE q0, Fld.start ((fld_at v_INVITE).symm.trans (own_eqI q1))⟩
  obtain ⟨a_MAIL_DAYS, v_MAIL_DAYS⟩ := exa_v q2
  have EnMAIL_DAYS : En_MAIL_DAYS s s.heap a_MAIL_DAYS := ⟨Sta.start v_MAIL_DAYS (Or.inr ⟨(wd_6 hw), (wd_20 hw)⟩), Exa.start v_MAIL_DAYS q2, Fld.start ((fld_at v_MAIL_DAYS).symm.trans (own_eqI q3))⟩
  obtain ⟨a_PUBLICATIONS, v_PUBLICATIONS⟩ := exa_v q4
  have EnPUBLICATIONS : En_PUBLICATIONS s s.heap a_PUBLICATIONS := ⟨Sta.start v_PUBLICATIONS (Or.inr ⟨(wd_6 hw), (wd_22 hw)⟩), Exa.start v_PUBLICATIONS q4, Fld.start ((fld_at v_PUBLICATIONS).symm.trans (own_eqI q5))⟩
  obtain ⟨a_FIRST_NOTICE_MAX_DAYS, v_FIRST_NOTICE_MAX_DAYS⟩ := exa_v q6
  have EnFIRST_NOTICE_MAX_DAYS : En_FIRST_NOTICE_MAX_DAYS s s.heap a_FIRST_NOTICE_MAX_DAYS := ⟨Sta.start v_FIRST_NOTICE_MAX_DAYS (Or.inr ⟨(wd_6 hw), (wd_24 hw)⟩), Exa.start v_FIRST_NOTICE_MAX_DAYS q6, Fld.start ((fld_at v_FIRST_NOTICE_MAX_DAYS).symm.trans (own_eqI q7))⟩
  obtain ⟨a_DAYS_APART, v_DAYS_APART⟩ := exa_v q8
  have EnDAYS_APART : En_DAYS_APART s s.heap a_DAYS_APART := ⟨Sta.start v_DAYS_APART (Or.inr ⟨(wd_6 hw), (wd_29 hw)⟩), Exa.start v_DAYS_APART q8, Fld.start ((fld_at v_DAYS_APART).symm.trans (own_eqI q9))⟩
  obtain ⟨a_DAYS_BEFORE_OPENING, v_DAYS_BEFORE_OPENING⟩ := exa_v q10
  have EnDAYS_BEFORE_OPENING : En_DAYS_BEFORE_OPENING s s.heap a_DAYS_BEFORE_OPENING := ⟨Sta.start v_DAYS_BEFORE_OPENING (Or.inr ⟨(wd_6 hw), (wd_31 hw)⟩), Exa.start v_DAYS_BEFORE_OPENING q10, Fld.start ((fld_at v_DAYS_BEFORE_OPENING).symm.trans (own_eqI q11))⟩
  obtain ⟨n, o, h1, h2, h3, _, L, rfl, ⟨N, -, rfl⟩, hq⟩ := law_met l s _ hw i0 i1 i2 EnINVITE EnMAIL_DAYS EnPUBLICATIONS EnFIRST_NOTICE_MAX_DAYS EnDAYS_APART EnDAYS_BEFORE_OPENING  p e ha hc hk s m _ below hf ((Spec.applies_iff_loose hf).mp happ).1 ⟨rfl, State.Warmed39.refl s, rfl⟩ trivial
  exact ⟨n, _, h1, h2, h3, hpost _ _ _ _ _ _ ⟨Cond.after_iff.mpr rfl, Cond.after_iff.mpr (eq_i res_at (Term.int_eval (1)) rfl), trivial⟩ ⟨hq.1, hq.2.1, (hq.2.2.sift fun y hy => Or.inr (N y hy)).mono (by decide) (by decide)⟩⟩
theorem main_1_1 : Claimed_1_1 := comes_1 fun _ _ _ _ _ _ h hF => ⟨h.1, hF⟩
theorem main_1_2 : Claimed_1_2 := comes_1 fun _ _ _ _ _ _ h hF => ⟨h.2.1, hF⟩
end Jvm.Pilot.@@N@@
namespace Jvm.Pilot.@@N@@
open Jvm Jvm.ClassFile Sem Op Lib Jvm.Free Jvm.Stand Jvm.Pilot.@@N@@.Jvm.D
/-! MADE BY PROGRAM (witnessworld.py) out of the Statement's table words and the real class files: 13 classes; the members and pool entries that the words name. The judged class is class 1, her method 2. -/
namespace start1
open Jvm.ClassFile
def u (s : String) : CpInfo := .utf8 (stringToUtf16 s)
/-- a pool by its gaps: so many unusable entries, then the entry; so many at the end -/
def gap : Nat → List CpInfo → List CpInfo
  | 0, r => r
  | n + 1, r => .unusable :: gap n r
def poolList (es : List (Nat × CpInfo)) (last : Nat) : List CpInfo := es.foldr (fun e r => gap e.1 (e.2 :: r)) (gap last [])
def pool (es : List (Nat × CpInfo)) (last : Nat) : Array CpInfo := ⟨poolList es last⟩
def fileOf (pool : Array CpInfo) (this : Nat) (attrs : Array Attribute := #[]) (ms : Array MethodInfo := #[]) (fl : Nat := 33) (sup : Nat := 0) (ifs : Array Nat := #[]) (fds : Array FieldInfo := #[]) : ClassFile where
  minorVersion := 0
  majorVersion := 65
  constantPool := pool
  accessFlags := fl
  thisClass := this
  superClass := sup
  interfaces := ifs
  fields := fds
  methods := ms
  attributes := attrs
def plain (name : String) (sup : Option ClassId) : Class where
  name := name
  kind := .ordinary
  loader := none
  accessFlags := 33
  super := sup
  interfaces := #[]
  cf := none
  fields := #[]
  methods := #[]
  instanceTypes := #[]
  staticTypes := #[]
  resolved := #[]
  callSites := []
  init := .initialized
  statics := none
  mirror := none

def pool0 : Array CpInfo := pool [(5, u "<init>"), (0, u "()V"), (1, .class_ 10), (1, u "java/lang/Object")] 113

def k0m0 : Method := { name := "<init>", desc := "()V", sig := { parameters := [], returnType := none }, accessFlags := 1, code := none }
/-- java/lang/Object -/
def k0 : Class := { plain "java/lang/Object" none with
  accessFlags := 33
  interfaces := #[]
  cf := some (fileOf pool0 8 #[] #[{ accessFlags := 1, nameIndex := 5, descriptorIndex := 6, attributes := #[] }] 33 0 #[] #[])
  fields := #[]
  methods := #[k0m0]
  instanceTypes := #[]
  staticTypes := #[]
  resolved := Array.replicate 124 none
  statics := none }

def pool1 : Array CpInfo := pool [(2, .class_ 4), (1, u "java/lang/Object"), (0, u "<init>"), (0, u "()V"), (0, .fieldref 8 9), (0, .class_ 10), (0, .nameAndType 11 12), (0, u "com/example/bidwright/bidwright/rules/Term"), (0, u "INVITE"), (0, u "Lcom/example/bidwright/bidwright/rules/Term;"), (0, .fieldref 8 14), (0, .nameAndType 15 12), (0, u "MAIL_DAYS"), (0, .fieldref 8 17), (0, .nameAndType 18 12), (0, u "PUBLICATIONS"), (0, .fieldref 8 20), (0, .nameAndType 21 12), (0, u "DAYS_APART"), (0, .fieldref 8 23), (0, .nameAndType 24 12), (0, u "DAYS_BEFORE_OPENING"), (0, .fieldref 8 26), (0, .nameAndType 27 12), (0, u "FIRST_NOTICE_MAX_DAYS"), (0, .integer 2147483647), (0, .methodref 30 31), (0, .class_ 32), (0, .nameAndType 33 34), (0, u "com/example/bidwright/bidwright/rules/TermStricterPinLaw"), (0, u "pick"), (0, u "(I)Lcom/example/bidwright/bidwright/rules/Term;"), (0, .methodref 8 36), (0, .nameAndType 37 38), (0, u "stricter"), (0, u "(II)I"), (3, u "law"), (0, u "(III)Z")] 2

def k1m0 : Method := { name := "<init>", desc := "()V", sig := { parameters := [], returnType := none }, accessFlags := 1, code := none }
def k1c1 : Code := { maxStack := 2, maxLocals := 1, code := method_2_code, exceptionTable := #[], attributes := #[] }
def k1m1 : Method := { name := "pick", desc := "(I)Lcom/example/bidwright/bidwright/rules/Term;", sig := { parameters := [.int], returnType := some (.object "com/example/bidwright/bidwright/rules/Term") }, accessFlags := 10, code := some k1c1 }
def k1c2 : Code := { maxStack := 3, maxLocals := 9, code := code, exceptionTable := #[], attributes := #[] }
def k1m2 : Method := { name := "law", desc := "(III)Z", sig := { parameters := [.int, .int, .int], returnType := some .boolean }, accessFlags := 9, code := some k1c2 }
/-- com/example/bidwright/bidwright/rules/TermStricterPinLaw -/
def k1 : Class := { plain "com/example/bidwright/bidwright/rules/TermStricterPinLaw" (some 0) with
  accessFlags := 49
  interfaces := #[]
  cf := some (fileOf pool1 30 #[] #[{ accessFlags := 1, nameIndex := 5, descriptorIndex := 6, attributes := #[] }, { accessFlags := 10, nameIndex := 33, descriptorIndex := 34, attributes := #[] }, { accessFlags := 9, nameIndex := 42, descriptorIndex := 43, attributes := #[] }] 49 2 #[] #[])
  fields := #[]
  methods := #[k1m0, k1m1, k1m2]
  instanceTypes := #[]
  staticTypes := #[]
  resolved := Array.replicate 46 none
  statics := none }

def pool2 : Array CpInfo := pool [(1, .class_ 2), (0, u "java/lang/constant/Constable"), (0, .class_ 4), (0, u "java/lang/Object")] 6

/-- java/lang/constant/Constable -/
def k2 : Class := { plain "java/lang/constant/Constable" (some 0) with
  accessFlags := 1537
  interfaces := #[]
  cf := some (fileOf pool2 1 #[] #[] 1537 3 #[] #[])
  fields := #[]
  methods := #[]
  instanceTypes := #[]
  staticTypes := #[]
  resolved := Array.replicate 11 none
  statics := none }

def pool3 : Array CpInfo := pool [(1, .class_ 2), (0, u "java/lang/Comparable"), (0, .class_ 4), (0, u "java/lang/Object")] 7

/-- java/lang/Comparable -/
def k3 : Class := { plain "java/lang/Comparable" (some 0) with
  accessFlags := 1537
  interfaces := #[]
  cf := some (fileOf pool3 1 #[] #[] 1537 3 #[] #[])
  fields := #[]
  methods := #[]
  instanceTypes := #[]
  staticTypes := #[]
  resolved := Array.replicate 12 none
  statics := none }

def pool4 : Array CpInfo := pool [(1, .class_ 2), (0, u "java/io/Serializable"), (0, .class_ 4), (0, u "java/lang/Object")] 2

/-- java/io/Serializable -/
def k4 : Class := { plain "java/io/Serializable" (some 0) with
  accessFlags := 1537
  interfaces := #[]
  cf := some (fileOf pool4 1 #[] #[] 1537 3 #[] #[])
  fields := #[]
  methods := #[]
  instanceTypes := #[]
  staticTypes := #[]
  resolved := Array.replicate 7 none
  statics := none }

def pool5 : Array CpInfo := pool [(2, .class_ 4), (1, u "java/lang/Enum"), (0, u "name"), (0, u "Ljava/lang/String;"), (2, u "ordinal"), (0, u "I"), (1, .class_ 14), (1, u "java/lang/Object"), (4, u "hash"), (86, .class_ 108), (1, u "java/lang/Enum$EnumDesc"), (2, .class_ 112), (0, u "java/lang/constant/Constable"), (0, .class_ 114), (0, u "java/lang/Comparable"), (0, .class_ 116), (0, u "java/io/Serializable")] 87

/-- java/lang/Enum -/
def k5 : Class := { plain "java/lang/Enum" (some 0) with
  accessFlags := 1057
  interfaces := #[2, 3, 4]
  cf := some (fileOf pool5 2 #[.nestMembers #[106]] #[] 1057 12 #[111, 113, 115] #[{ accessFlags := 18, nameIndex := 5, descriptorIndex := 6, attributes := #[] }, { accessFlags := 18, nameIndex := 9, descriptorIndex := 10, attributes := #[] }, { accessFlags := 2, nameIndex := 19, descriptorIndex := 10, attributes := #[] }])
  fields := #[{ name := "name", type := (.object "java/lang/String"), accessFlags := 18, slot := 0, constantValue := 0 }, { name := "ordinal", type := .int, accessFlags := 18, slot := 1, constantValue := 0 }, { name := "hash", type := .int, accessFlags := 2, slot := 2, constantValue := 0 }]
  methods := #[]
  instanceTypes := #[(.object "java/lang/String"), .int, .int]
  staticTypes := #[]
  resolved := Array.replicate 204 none
  statics := none }

def pool6 : Array CpInfo := pool [(1, .class_ 2), (0, u "com/example/bidwright/bidwright/rules/Term"), (2, u "INVITE"), (0, u "Lcom/example/bidwright/bidwright/rules/Term;"), (2, u "MAIL_DAYS"), (2, u "PUBLICATIONS"), (2, u "DAYS_APART"), (2, u "DAYS_BEFORE_OPENING"), (2, u "FIRST_NOTICE_MAX_DAYS"), (2, u "$VALUES"), (0, u "[Lcom/example/bidwright/bidwright/rules/Term;"), (6, .class_ 34), (1, u "java/lang/Enum"), (8, u "code"), (0, u "Ljava/lang/String;"), (2, u "title"), (0, .fieldref 1 49), (0, .nameAndType 50 51), (0, u "atMost"), (0, u "Z"), (0, .methodref 53 54), (0, .class_ 55), (0, .nameAndType 56 57), (0, u "java/lang/Math"), (0, u "min"), (0, u "(II)I"), (0, .methodref 53 59), (0, .nameAndType 60 57), (0, u "max"), (45, u "stricter")] 8

def k6c0 : Code := { maxStack := 2, maxLocals := 3, code := prog_70_method_6_code, exceptionTable := #[], attributes := #[] }
def k6m0 : Method := { name := "stricter", desc := "(II)I", sig := { parameters := [.int, .int], returnType := some .int }, accessFlags := 1, code := some k6c0 }
/-- com/example/bidwright/bidwright/rules/Term -/
def k6 : Class := { plain "com/example/bidwright/bidwright/rules/Term" (some 5) with
  accessFlags := 16433
  interfaces := #[]
  cf := some (fileOf pool6 1 #[] #[{ accessFlags := 1, nameIndex := 106, descriptorIndex := 57, attributes := #[] }] 16433 32 #[] #[{ accessFlags := 16409, nameIndex := 5, descriptorIndex := 6, attributes := #[] }, { accessFlags := 16409, nameIndex := 9, descriptorIndex := 6, attributes := #[] }, { accessFlags := 16409, nameIndex := 12, descriptorIndex := 6, attributes := #[] }, { accessFlags := 16409, nameIndex := 15, descriptorIndex := 6, attributes := #[] }, { accessFlags := 16409, nameIndex := 18, descriptorIndex := 6, attributes := #[] }, { accessFlags := 16409, nameIndex := 21, descriptorIndex := 6, attributes := #[] }, { accessFlags := 18, nameIndex := 43, descriptorIndex := 44, attributes := #[] }, { accessFlags := 18, nameIndex := 47, descriptorIndex := 44, attributes := #[] }, { accessFlags := 18, nameIndex := 50, descriptorIndex := 51, attributes := #[] }, { accessFlags := 4122, nameIndex := 24, descriptorIndex := 25, attributes := #[] }])
  fields := #[{ name := "INVITE", type := (.object "com/example/bidwright/bidwright/rules/Term"), accessFlags := 16409, slot := 0, constantValue := 0 }, { name := "MAIL_DAYS", type := (.object "com/example/bidwright/bidwright/rules/Term"), accessFlags := 16409, slot := 1, constantValue := 0 }, { name := "PUBLICATIONS", type := (.object "com/example/bidwright/bidwright/rules/Term"), accessFlags := 16409, slot := 2, constantValue := 0 }, { name := "DAYS_APART", type := (.object "com/example/bidwright/bidwright/rules/Term"), accessFlags := 16409, slot := 3, constantValue := 0 }, { name := "DAYS_BEFORE_OPENING", type := (.object "com/example/bidwright/bidwright/rules/Term"), accessFlags := 16409, slot := 4, constantValue := 0 }, { name := "FIRST_NOTICE_MAX_DAYS", type := (.object "com/example/bidwright/bidwright/rules/Term"), accessFlags := 16409, slot := 5, constantValue := 0 }, { name := "code", type := (.object "java/lang/String"), accessFlags := 18, slot := 3, constantValue := 0 }, { name := "title", type := (.object "java/lang/String"), accessFlags := 18, slot := 4, constantValue := 0 }, { name := "atMost", type := .boolean, accessFlags := 18, slot := 5, constantValue := 0 }, { name := "$VALUES", type := (.array (.object "com/example/bidwright/bidwright/rules/Term")), accessFlags := 4122, slot := 6, constantValue := 0 }]
  methods := #[k6m0]
  instanceTypes := #[(.object "java/lang/String"), .int, .int, (.object "java/lang/String"), (.object "java/lang/String"), .boolean]
  staticTypes := #[(.object "com/example/bidwright/bidwright/rules/Term"), (.object "com/example/bidwright/bidwright/rules/Term"), (.object "com/example/bidwright/bidwright/rules/Term"), (.object "com/example/bidwright/bidwright/rules/Term"), (.object "com/example/bidwright/bidwright/rules/Term"), (.object "com/example/bidwright/bidwright/rules/Term"), (.array (.object "com/example/bidwright/bidwright/rules/Term"))]
  resolved := Array.replicate 115 none
  statics := some 0 }

def pool7 : Array CpInfo := pool [(1, .class_ 2), (0, u "java/lang/Math"), (1, .class_ 6), (1, u "java/lang/Object"), (0, u "<init>"), (0, u "()V"), (89, .class_ 100), (1, u "java/lang/Math$RandomNumberGeneratorHolder"), (71, u "negativeZeroFloatBits"), (0, u "J"), (2, u "negativeZeroDoubleBits"), (21, u "max"), (2, u "min"), (43, u "$assertionsDisabled"), (0, u "Z"), (88, u "(II)I"), (2, u "twoToTheDoubleScaleDown"), (0, u "D"), (4, u "twoToTheDoubleScaleUp"), (9, u "E"), (3, u "PI"), (2, u "TAU"), (2, u "DEGREES_TO_RADIANS"), (0, u "RADIANS_TO_DEGREES")] 94

def k7m0 : Method := { name := "<init>", desc := "()V", sig := { parameters := [], returnType := none }, accessFlags := 2, code := none }
def k7c1 : Code := { maxStack := 2, maxLocals := 2, code := jdk_29_method_65_code, exceptionTable := #[], attributes := #[] }
def k7m1 : Method := { name := "max", desc := "(II)I", sig := { parameters := [.int, .int], returnType := some .int }, accessFlags := 9, code := some k7c1 }
def k7c2 : Code := { maxStack := 2, maxLocals := 2, code := jdk_29_method_69_code, exceptionTable := #[], attributes := #[] }
def k7m2 : Method := { name := "min", desc := "(II)I", sig := { parameters := [.int, .int], returnType := some .int }, accessFlags := 9, code := some k7c2 }
/-- java/lang/Math -/
def k7 : Class := { plain "java/lang/Math" (some 0) with
  accessFlags := 49
  interfaces := #[]
  cf := some (fileOf pool7 1 #[.nestMembers #[98]] #[{ accessFlags := 2, nameIndex := 7, descriptorIndex := 8, attributes := #[] }, { accessFlags := 9, nameIndex := 198, descriptorIndex := 335, attributes := #[] }, { accessFlags := 9, nameIndex := 201, descriptorIndex := 335, attributes := #[] }] 49 4 #[] #[{ accessFlags := 25, nameIndex := 354, descriptorIndex := 339, attributes := #[] }, { accessFlags := 25, nameIndex := 358, descriptorIndex := 339, attributes := #[] }, { accessFlags := 25, nameIndex := 361, descriptorIndex := 339, attributes := #[] }, { accessFlags := 26, nameIndex := 364, descriptorIndex := 339, attributes := #[] }, { accessFlags := 26, nameIndex := 365, descriptorIndex := 339, attributes := #[] }, { accessFlags := 26, nameIndex := 172, descriptorIndex := 173, attributes := #[] }, { accessFlags := 26, nameIndex := 176, descriptorIndex := 173, attributes := #[] }, { accessFlags := 8, nameIndex := 344, descriptorIndex := 339, attributes := #[] }, { accessFlags := 8, nameIndex := 338, descriptorIndex := 339, attributes := #[] }, { accessFlags := 4120, nameIndex := 245, descriptorIndex := 246, attributes := #[] }])
  fields := #[{ name := "E", type := .double, accessFlags := 25, slot := 0, constantValue := 0 }, { name := "PI", type := .double, accessFlags := 25, slot := 1, constantValue := 0 }, { name := "TAU", type := .double, accessFlags := 25, slot := 2, constantValue := 0 }, { name := "DEGREES_TO_RADIANS", type := .double, accessFlags := 26, slot := 3, constantValue := 0 }, { name := "RADIANS_TO_DEGREES", type := .double, accessFlags := 26, slot := 4, constantValue := 0 }, { name := "negativeZeroFloatBits", type := .long, accessFlags := 26, slot := 5, constantValue := 0 }, { name := "negativeZeroDoubleBits", type := .long, accessFlags := 26, slot := 6, constantValue := 0 }, { name := "twoToTheDoubleScaleUp", type := .double, accessFlags := 8, slot := 7, constantValue := 0 }, { name := "twoToTheDoubleScaleDown", type := .double, accessFlags := 8, slot := 8, constantValue := 0 }, { name := "$assertionsDisabled", type := .boolean, accessFlags := 4120, slot := 9, constantValue := 0 }]
  methods := #[k7m0, k7m1, k7m2]
  instanceTypes := #[]
  staticTypes := #[.double, .double, .double, .double, .double, .long, .long, .double, .double, .boolean]
  resolved := Array.replicate 460 none
  statics := none }

def pool8 : Array CpInfo := pool [(1, u "java/lang/Cloneable"), (0, .class_ 1), (0, u "java/lang/Object"), (0, .class_ 3)] 3

/-- java/lang/Cloneable -/
def k8 : Class := { plain "java/lang/Cloneable" (some 0) with
  accessFlags := 1537
  interfaces := #[]
  cf := some (fileOf pool8 2 #[] #[] 1537 4 #[] #[])
  fields := #[]
  methods := #[]
  instanceTypes := #[]
  staticTypes := #[]
  resolved := Array.replicate 8 none
  statics := none }

/-- the primitive byte -/
def k9 : Class := { plain "byte" none with kind := .primitive 'B', accessFlags := 0x411 }
/-- [B -/
def k10 : Class := { plain "[B" (some 0) with kind := .array 9 .byte, interfaces := #[8, 4], accessFlags := 1041 }

/-- the primitive int -/
def k11 : Class := { plain "int" none with kind := .primitive 'I', accessFlags := 0x411 }
/-- [I -/
def k12 : Class := { plain "[I" (some 0) with kind := .array 11 .int, interfaces := #[8, 4], accessFlags := 1041 }

def heap : Heap := #[{ cls := 6, slots := #[.ref 1, .ref 2, .ref 3, .ref 5, .ref 6, .ref 4, .null], vm := .statics 6 },
  { cls := 6, slots := #[.null, .int 0, .int 0, .null, .null, .int 0], vm := .none },
  { cls := 6, slots := #[.null, .int 0, .int 0, .null, .null, .int 0], vm := .none },
  { cls := 6, slots := #[.null, .int 0, .int 0, .null, .null, .int 0], vm := .none },
  { cls := 6, slots := #[.null, .int 0, .int 0, .null, .null, .int 1], vm := .none },
  { cls := 6, slots := #[.null, .int 0, .int 0, .null, .null, .int 0], vm := .none },
  { cls := 6, slots := #[.null, .int 0, .int 0, .null, .null, .int 0], vm := .none }]
def classes : Array Class := #[k0, k1, k2, k3, k4, k5, k6, k7, k8, k9, k10, k11, k12]
def interned : List (Array UInt16 × Addr) := []
def slotsUsed : Nat := 43
def theMethod : MethodId := ⟨1, 2⟩
def args0 : Array Value := #[.int 3, .int 4, .int 5]
def aboutOver (below : List Frame) : State where
  vm := { classes := classes, interned := interned.toArray }
  heap := heap
  slotsUsed := slotsUsed
  threads := #[{ frames := .invoking theMethod args0 :: below }]
def below0 : List Frame := [.native { method := ⟨0, 0⟩, args := #[] }]
def about1 : State := aboutOver below0
def p0 : Program := .bare "" "" ""
def e0 : Env := launch0.env 0 0 0
theorem w_frames : about1.frames = Frame.invoking theMethod args0 :: below0 := rfl
set_option maxRecDepth 65536 in
theorem w_args : argsFit about1.vm theMethod args0 = true := by decide +kernel
set_option maxRecDepth 65536 in
theorem w_heap : heapFits about1 = true := by decide +kernel
set_option maxRecDepth 65536 in
theorem w_runnable : about1.curStatus? = some .runnable := by decide +kernel
set_option maxRecDepth 65536 in
theorem w_alone : about1.alone = true := by decide +kernel
set_option maxRecDepth 65536 in
theorem w_named : about1.methodNamed? x = some theMethod := by decide +kernel
set_option maxRecDepth 65536 in
theorem w_hears : about1.hears theMethod below0 = true := by decide +kernel
set_option maxRecDepth 65536 in
theorem w_ripe : about1.ripe theMethod args0 below0 = true := by decide +kernel
theorem w_running : about1.status = .running := rfl
set_option maxRecDepth 65536 in
theorem w_room : about1.hasRoom e0.platform room_1 = true :=
  launch0.hasRoom_least _ room_1 (by decide +kernel) (by decide +kernel) (by decide +kernel) (by decide +kernel) (by decide +kernel) (by decide +kernel)
theorem allAtoms_all (ts : List Jvm.Cond) (a : Array Jvm.Value) (st : Jvm.State) : (allAtoms ts).before a st = ts.all (fun c => c.before a st) := by
  induction ts with
  | nil => rfl
  | cons c t ih =>
    show (Jvm.Cond.and c (allAtoms t)).before a st = _
    rw [Jvm.Cond.before_and, ih, List.all_cons]
def words1 : List Jvm.Cond := Jvm.Cond.code x code maxLocals ret :: tables_1
/-- a 'code' word, met by the world's own term for the bytes: nothing is compared byte by byte -/
theorem code_word {y : MethodName} {bytes : ByteArray} {mx : Nat} {rt : Option FieldType} {a : Array Value} {s : State} {m : MethodId} {meth : Method} {c : Code} (h1 : s.methodNamed? y = some m) (h2 : s.vm.method? m = some meth) (h3 : meth.code = some c) (h4 : c.code = bytes)
    (h5 : (c.maxLocals == mx && c.exceptionTable.isEmpty && decide (c.maxStack ≤ mostOperands) && decide (meth.sig.returnType = rt) && !meth.locks && decide (parseMethodDescriptor y.desc = some meth.sig)) = true) : (Jvm.Cond.code y bytes mx rt).before a s = true := by
  simp only [Bool.and_eq_true, beq_iff_eq, Bool.not_eq_true', decide_eq_true_eq] at h5
  obtain ⟨⟨⟨⟨⟨g1, g2⟩, g3⟩, g4⟩, g5⟩, g6⟩ := h5
  simp [Cond.before, Cond.holds, Cond.value, h1, h2, h3, h4, g1, g2, g3, g4, g5, g6]
def isCode : Jvm.Cond → Bool
  | .code _ _ _ _ => true
  | _ => false
theorem all_split {L : List Jvm.Cond} {P : Jvm.Cond → Bool} (h1 : L.all (fun c => isCode c || P c) = true) (h2 : ∀ c ∈ L.filter isCode, P c = true) : L.all P = true := by
  refine List.all_eq_true.mpr fun c hc => ?_
  have h := List.all_eq_true.mp h1 c hc
  rcases Bool.eq_false_or_eq_true (isCode c) with hi | hi
  · exact h2 c (List.mem_filter.mpr ⟨hc, hi⟩)
  · simpa [hi] using h
set_option maxRecDepth 65536 in
theorem w_c0 : (Jvm.Cond.code x code maxLocals ret).before args0 about1 = true := code_word (m := ⟨1, 2⟩) (meth := k1m2) (c := k1c2) (by decide +kernel) rfl rfl rfl (by decide +kernel)
set_option maxRecDepth 65536 in
theorem w_c1 : (Jvm.Cond.code ({ cls := "com/example/bidwright/bidwright/rules/TermStricterPinLaw", name := "pick", desc := "(I)Lcom/example/bidwright/bidwright/rules/Term;" } : Jvm.MethodName) method_2_code (1 : Nat) (Option.some (Jvm.ClassFile.FieldType.object "com/example/bidwright/bidwright/rules/Term"))).before args0 about1 = true := code_word (m := ⟨1, 1⟩) (meth := k1m1) (c := k1c1) (by decide +kernel) rfl rfl rfl (by decide +kernel)
set_option maxRecDepth 65536 in
theorem w_c2 : (Jvm.Cond.code ({ cls := "com/example/bidwright/bidwright/rules/Term", name := "stricter", desc := "(II)I" } : Jvm.MethodName) prog_70_method_6_code (3 : Nat) (Option.some Jvm.ClassFile.FieldType.int)).before args0 about1 = true := code_word (m := ⟨6, 0⟩) (meth := k6m0) (c := k6c0) (by decide +kernel) rfl rfl rfl (by decide +kernel)
set_option maxRecDepth 65536 in
theorem w_c3 : (Jvm.Cond.code ({ cls := "java/lang/Math", name := "max", desc := "(II)I" } : Jvm.MethodName) jdk_29_method_65_code (2 : Nat) (Option.some Jvm.ClassFile.FieldType.int)).before args0 about1 = true := code_word (m := ⟨7, 1⟩) (meth := k7m1) (c := k7c1) (by decide +kernel) rfl rfl rfl (by decide +kernel)
set_option maxRecDepth 65536 in
theorem w_c4 : (Jvm.Cond.code ({ cls := "java/lang/Math", name := "min", desc := "(II)I" } : Jvm.MethodName) jdk_29_method_69_code (2 : Nat) (Option.some Jvm.ClassFile.FieldType.int)).before args0 about1 = true := code_word (m := ⟨7, 2⟩) (meth := k7m2) (c := k7c2) (by decide +kernel) rfl rfl rfl (by decide +kernel)
def codes1 : List Jvm.Cond := [Jvm.Cond.code x code maxLocals ret, Jvm.Cond.code ({ cls := "com/example/bidwright/bidwright/rules/TermStricterPinLaw", name := "pick", desc := "(I)Lcom/example/bidwright/bidwright/rules/Term;" } : Jvm.MethodName) method_2_code (1 : Nat) (Option.some (Jvm.ClassFile.FieldType.object "com/example/bidwright/bidwright/rules/Term")), Jvm.Cond.code ({ cls := "com/example/bidwright/bidwright/rules/Term", name := "stricter", desc := "(II)I" } : Jvm.MethodName) prog_70_method_6_code (3 : Nat) (Option.some Jvm.ClassFile.FieldType.int), Jvm.Cond.code ({ cls := "java/lang/Math", name := "max", desc := "(II)I" } : Jvm.MethodName) jdk_29_method_65_code (2 : Nat) (Option.some Jvm.ClassFile.FieldType.int), Jvm.Cond.code ({ cls := "java/lang/Math", name := "min", desc := "(II)I" } : Jvm.MethodName) jdk_29_method_69_code (2 : Nat) (Option.some Jvm.ClassFile.FieldType.int)]
set_option maxRecDepth 65536 in
theorem codes_eq : words1.filter isCode = codes1 := rfl
theorem w_codes : ∀ c ∈ words1.filter isCode, c.before args0 about1 = true := by
  rw [codes_eq]
  intro c hc
  simp only [codes1, List.mem_cons, List.not_mem_nil, or_false] at hc
  rcases hc with rfl | rfl | rfl | rfl | rfl
  · exact w_c0
  · exact w_c1
  · exact w_c2
  · exact w_c3
  · exact w_c4
set_option maxRecDepth 65536 in
theorem w_t1 : (words1.take 24).all (fun c => isCode c || c.before args0 about1) = true := by decide +kernel
set_option maxRecDepth 65536 in
theorem w_t2 : (words1.drop 24).all (fun c => isCode c || c.before args0 about1) = true := by decide +kernel
theorem w_tables : (allAtoms (Jvm.Cond.code x code maxLocals ret :: tables_1)).before args0 about1 = true := by
  rw [allAtoms_all]
  show words1.all (fun c => c.before args0 about1) = true
  refine all_split ?_ w_codes
  rw [← List.take_append_drop 24 words1, List.all_append, w_t1, w_t2]
  rfl
set_option maxRecDepth 65536 in
theorem w_case : (Jvm.Cond.and given_1 narrow_1).before args0 about1 = true := by decide +kernel
theorem w_applies : (headSpec (Jvm.Cond.code x code maxLocals ret :: tables_1) room_1).applies x e0.platform about1 = true :=
  (Spec.applies_iff w_frames).mpr ⟨w_running, w_runnable, w_alone, w_named, w_hears, w_ripe, w_room, w_tables⟩
theorem atStart : AtStart classFile x code maxLocals ret World_1 tables_1 room_1 Calls_1 rest_1 Pre_1 launch0 p0 e0 about1 theMethod args0 below0 :=
  ⟨lists_1, trivial, launch0.admits_env _ _ _, launch0.least_env, fairChoices_fair.cas, fairChoices_fair.clock, w_frames, w_args, w_heap, w_applies, trivial, trivial, w_case⟩
end start1
theorem witness_1 : WitnessClaimed_1 := ⟨start1.p0, start1.e0, start1.about1, start1.theMethod, start1.args0, start1.below0, start1.atStart⟩
end Jvm.Pilot.@@N@@
