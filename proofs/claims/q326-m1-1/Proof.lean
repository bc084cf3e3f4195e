import JvmDerived
import JvmDerived.Pilot.@@N@@Statement
import JvmDerived.Pilot.@@N@@Code
set_option linter.unusedVariables false
set_option linter.unusedSimpArgs false
namespace Jvm.Pilot.@@N@@
open Jvm Jvm.ClassFile Sem Op Lib Jvm.Free Jvm.Stand Jvm.LawKit Jvm.RoadKit Bundle Jvm.Pilot.@@N@@.Jvm.D
/-- from t the run comes to an end of which P holds -/
def Goes (tb : Tables) (e : Env) (below : List Frame) (P : Outcome → State → Prop) (t : State) : Prop := ∃ s₂ o, Steps tb e below t s₂ ∧ s₂.status = .running ∧ Ended s₂ below o ∧ P o s₂
theorem Goes.on {tb : Tables} {e : Env} {below : List Frame} {P : Outcome → State → Prop} {t t' : State} (h : ∀ target, Steps tb e below t' target → Steps tb e below t target) (k : Goes tb e below P t') : Goes tb e below P t := by
  obtain ⟨s₂, o, h1, h2⟩ := k
  exact ⟨s₂, o, h _ h1, h2⟩
theorem Goes.to {tb : Tables} {e : Env} {below : List Frame} {P : Outcome → State → Prop} {t t' : State} (h : Steps tb e below t t') (k : Goes tb e below P t') : Goes tb e below P t := k.on fun _ q => h.trans q
/-- what a body's end says -/
def Ends (s : State) (Q : Option Value → Heap → List Loc → Prop) (C S : Nat) (o : Outcome) (U : State) : Prop := ∃ v L, o = .returned v ∧ Q v U.heap L ∧ FrameEnd s o U L C S
/-- a body's contract -/
def Met (l : Launch) (Z : State) (y : MethodName) (bytes : ByteArray) (maxL : Nat) (ret : Option FieldType) (rm : Room) (ws : List Jvm.Cond) (as' : Array Value) (h0 : Heap) (Q : Option Value → Heap → List Loc → Prop) : Prop :=
  MetFree l y (head1 (Jvm.Cond.code y bytes maxL ret :: ws) rm) (fun a U => a = as' ∧ Z.Warmed39 U.vm ∧ U.heap = h0) (fun _ _ _ _ _ => True) (fun _ U o U' => ∃ v L, o = .returned v ∧ Q v U'.heap L ∧ FrameEnd U o U' L rm.cells rm.slots)
section Own
variable {p : Program} {l : Launch} {e : Env} {R : Room} {s : State} {m : MethodId} {args : Array Value} {below : List Frame} {meth : Method} {c : Code} {T : State} {locs : List Loc} {cells slots cells' slots' : Nat} {Z : State} {a0 : Array Value} {h : Heap} {P : Outcome → State → Prop} {pc pc' : Nat} {L L' : Array Slot} {S : List Value}
theorem met_of {y : MethodName} {bytes : ByteArray} {maxL : Nat} {ret : Option FieldType} {rm : Room} {ws : List Jvm.Cond} {as' : Array Value} {h0 : Heap} {Q : Option Value → Heap → List Loc → Prop} {L0 : Array Slot}
    (hpn : plainFor y = true) (hef : ∀ m, entryFrame m as' maxL = mkF m 0 L0 [])
    (body : ∀ (p : Program) (e : Env) (s : State) (m : MethodId) (below : List Frame) (meth : Method) (c : Code) (T : State), p.tables.exec = Jvm.exec → c.code = bytes → c.maxLocals = maxL → s.vm.findClass y.cls = some m.cls → meth.name = y.name → meth.sig.returnType = ret → meth.locks = false → Z.Warmed39 s.vm → Stand p l e rm s m as' below meth c T [] 0 0 → T.heap = h0 → Goes p.tables e below (Ends s Q rm.cells rm.slots) (T.setTop (mkF m 0 L0 []))) :
    Met l Z y bytes maxL ret rm ws as' h0 Q := by
  refine MetFree.of_bodySF hpn hisR ?_
  intro p e s m args below meth c s₁ Bd hml0 hP hK
  obtain ⟨rfl, hZ, hh⟩ := hP
  have e0 : s₁.heap = h0 := by rw [← hh, Bd.state]; rfl
  obtain ⟨s₂, o, h1, h2, h3, h4⟩ := body p e s m below meth c s₁ Bd.exec Bd.bytes hml0 (findClass_of_methodNamed Bd.named) (name_of_methodNamed Bd.named Bd.method).1 Bd.returns (BodyLoose.notSynchronized Bd) hZ (Stand.of_body Bd) e0
  exact ⟨s₂, o, castTop (hef m) h1, h2, h3, h4⟩
theorem o_cat {v : Value} (h : v.isRef = true) : v.category = 1 := by rcases ref_cases h with rfl | ⟨a, rfl⟩ <;> rfl
theorem o_nar {C : String} {v : Value} (h : v.isRef = true) : narrow (.object C) v = v := by rcases ref_cases h with rfl | ⟨a, rfl⟩ <;> rfl
theorem o_fit {C : String} {v : Value} (h : v.isRef = true) : fits (.object C) v = true := by rcases ref_cases h with rfl | ⟨a, rfl⟩ <;> rfl
theorem o_nar01 {z : Int32} (h : z = 0 ∨ z = 1) : narrow .boolean (.int z) = .int z := by rcases h with rfl | rfl <;> rfl
theorem o_fit01 {z : Int32} (h : z = 0 ∨ z = 1) : fits .boolean (.int z) = true := by rcases h with rfl | rfl <;> rfl
theorem o_ret (X : Stand p l e R s m args below meth c T locs cells slots) (hx : p.tables.exec = Jvm.exec) (hlk : meth.locks = false) {w : Value} {t : FieldType} {i : Instr} {Q : Option Value → Heap → List Loc → Prop} {C Sl : Nat} (hret : meth.sig.returnType = some t) (hn : narrow t w = w)
    (hi : (i = .ireturn ∧ (t = .int ∨ t = .boolean ∨ t = .byte ∨ t = .char ∨ t = .short) ∧ ∃ z, w = .int z) ∨ (i = .lreturn ∧ t = .long ∧ ∃ z, w = .long z) ∨ (i = .dreturn ∧ t = .double ∧ ∃ z, w = .double z) ∨ (i = .freturn ∧ t = .float ∧ ∃ z, w = .float z) ∨ (i = .areturn ∧ t.isReference = true ∧ w.isRef = true))
    (hd : decode c.code pc = .ok (i, 1)) (hC : cells ≤ C) (hS : slots ≤ Sl) (eT : T.heap = h) (hq : Q (some w) h locs) : Goes p.tables e below (Ends s Q C Sl) (T.setTop (mkF m pc L (w :: S))) := by
  subst eT
  obtain ⟨fs, hr, hrun, hended, hW, hsame⟩ := X.leave (v := some w) (fun h => by rw [hret] at h; cases h) hlk
  exact ⟨_, _, retOut X hx hret hn hi hd hr, hrun, hended, _, _, rfl, hq, ⟨_, rfl⟩, hW, hsame.mono hC hS⟩
theorem o_retV (X : Stand p l e R s m args below meth c T locs cells slots) (hx : p.tables.exec = Jvm.exec) (hlk : meth.locks = false) {Q : Option Value → Heap → List Loc → Prop} {C Sl : Nat} (hret : meth.sig.returnType = none) (hd : decode c.code pc = .ok (.return_, 1)) (hC : cells ≤ C) (hS : slots ≤ Sl) (eT : T.heap = h) (hq : Q none h locs) :
    Goes p.tables e below (Ends s Q C Sl) (T.setTop (mkF m pc L [])) := by
  subst eT
  obtain ⟨fs, hr, hrun, hended, hW, hsame⟩ := X.leave (v := none) (fun _ => rfl) hlk
  exact ⟨_, _, X.returnOut hx hret hd hr, hrun, hended, _, _, rfl, hq, ⟨_, rfl⟩, hW, hsame.mono hC hS⟩
theorem o_iloadN (X : Stand p l e R s m args below meth c T locs cells slots) (hx : p.tables.exec = Jvm.exec) {k : Fin 4} {v : Int32} (hd : decode c.code pc = .ok (.iload_n k, 1)) (hl : L[k.val]? = some (.val (.int v))) (hp : pc + 1 = pc') (kk : Goes p.tables e below P (T.setTop (mkF m pc' L (.int v :: S)))) : Goes p.tables e below P (T.setTop (mkF m pc L S)) := by
  subst hp; exact kk.on fun _ k => XS.iloadN X.here hx rfl hd hl k
theorem o_iload (X : Stand p l e R s m args below meth c T locs cells slots) (hx : p.tables.exec = Jvm.exec) {k : Nat} {v : Int32} (hd : decode c.code pc = .ok (.iload k, 2)) (hl : L[k]? = some (.val (.int v))) (hp : pc + 2 = pc') (kk : Goes p.tables e below P (T.setTop (mkF m pc' L (.int v :: S)))) : Goes p.tables e below P (T.setTop (mkF m pc L S)) := by
  subst hp; exact kk.on fun _ k => XS.iload X.here hx rfl hd hl k
theorem o_istoreN (X : Stand p l e R s m args below meth c T locs cells slots) (hx : p.tables.exec = Jvm.exec) {k : Fin 4} {x : Int32} (hd : decode c.code pc = .ok (.istore_n k, 1)) (hl : storeLocals L k.val (.int x) = some L') (hp : pc + 1 = pc') (kk : Goes p.tables e below P (T.setTop (mkF m pc' L' S))) : Goes p.tables e below P (T.setTop (mkF m pc L (.int x :: S))) := by
  subst hp; exact kk.on fun _ k => XS.istoreN X.here hx rfl hd rfl hl k
theorem o_istore (X : Stand p l e R s m args below meth c T locs cells slots) (hx : p.tables.exec = Jvm.exec) {k : Nat} {x : Int32} (hd : decode c.code pc = .ok (.istore k, 2)) (hl : storeLocals L k (.int x) = some L') (hp : pc + 2 = pc') (kk : Goes p.tables e below P (T.setTop (mkF m pc' L' S))) : Goes p.tables e below P (T.setTop (mkF m pc L (.int x :: S))) := by
  subst hp; exact kk.on fun _ k => XS.istore X.here hx rfl hd rfl hl k
theorem o_lloadN (X : Stand p l e R s m args below meth c T locs cells slots) (hx : p.tables.exec = Jvm.exec) {k : Fin 4} {v : Int64} (hd : decode c.code pc = .ok (.lload_n k, 1)) (hl : L[k.val]? = some (.val (.long v))) (hp : pc + 1 = pc') (kk : Goes p.tables e below P (T.setTop (mkF m pc' L (.long v :: S)))) : Goes p.tables e below P (T.setTop (mkF m pc L S)) := by
  subst hp; exact kk.on fun _ k => XS.lloadN X.here hx rfl hd hl k
theorem o_lload (X : Stand p l e R s m args below meth c T locs cells slots) (hx : p.tables.exec = Jvm.exec) {k : Nat} {v : Int64} (hd : decode c.code pc = .ok (.lload k, 2)) (hl : L[k]? = some (.val (.long v))) (hp : pc + 2 = pc') (kk : Goes p.tables e below P (T.setTop (mkF m pc' L (.long v :: S)))) : Goes p.tables e below P (T.setTop (mkF m pc L S)) := by
  subst hp; exact kk.on fun _ k => XS.lload X.here hx rfl hd hl k
theorem o_lstoreN (X : Stand p l e R s m args below meth c T locs cells slots) (hx : p.tables.exec = Jvm.exec) {k : Fin 4} {x : Int64} (hd : decode c.code pc = .ok (.lstore_n k, 1)) (hl : storeLocals L k.val (.long x) = some L') (hp : pc + 1 = pc') (kk : Goes p.tables e below P (T.setTop (mkF m pc' L' S))) : Goes p.tables e below P (T.setTop (mkF m pc L (.long x :: S))) := by
  subst hp; exact kk.on fun _ k => XS.lstoreN X.here hx rfl hd rfl hl k
theorem o_lstore (X : Stand p l e R s m args below meth c T locs cells slots) (hx : p.tables.exec = Jvm.exec) {k : Nat} {x : Int64} (hd : decode c.code pc = .ok (.lstore k, 2)) (hl : storeLocals L k (.long x) = some L') (hp : pc + 2 = pc') (kk : Goes p.tables e below P (T.setTop (mkF m pc' L' S))) : Goes p.tables e below P (T.setTop (mkF m pc L (.long x :: S))) := by
  subst hp; exact kk.on fun _ k => XS.lstore X.here hx rfl hd rfl hl k
theorem o_aloadN (X : Stand p l e R s m args below meth c T locs cells slots) (hx : p.tables.exec = Jvm.exec) {k : Fin 4} {v : Value} (hd : decode c.code pc = .ok (.aload_n k, 1)) (hl : L[k.val]? = some (.val v)) (hv : v.isRef = true) (hp : pc + 1 = pc') (kk : Goes p.tables e below P (T.setTop (mkF m pc' L (v :: S)))) : Goes p.tables e below P (T.setTop (mkF m pc L S)) := by
  subst hp; exact kk.on fun _ k => XS.aloadN X.here hx rfl hd hl hv k
theorem o_aload (X : Stand p l e R s m args below meth c T locs cells slots) (hx : p.tables.exec = Jvm.exec) {k : Nat} {v : Value} (hd : decode c.code pc = .ok (.aload k, 2)) (hl : L[k]? = some (.val v)) (hv : v.isRef = true) (hp : pc + 2 = pc') (kk : Goes p.tables e below P (T.setTop (mkF m pc' L (v :: S)))) : Goes p.tables e below P (T.setTop (mkF m pc L S)) := by
  subst hp; exact kk.on fun _ k => XS.aload X.here hx rfl hd hl hv k
theorem o_astoreN (X : Stand p l e R s m args below meth c T locs cells slots) (hx : p.tables.exec = Jvm.exec) {k : Fin 4} {x : Value} (hd : decode c.code pc = .ok (.astore_n k, 1)) (hv : x.isRef = true) (hl : storeLocals L k.val x = some L') (hp : pc + 1 = pc') (kk : Goes p.tables e below P (T.setTop (mkF m pc' L' S))) : Goes p.tables e below P (T.setTop (mkF m pc L (x :: S))) := by
  subst hp; exact kk.on fun _ k => XS.astoreN X.here hx rfl hd rfl hv hl k
theorem o_astore (X : Stand p l e R s m args below meth c T locs cells slots) (hx : p.tables.exec = Jvm.exec) {k : Nat} {x : Value} (hd : decode c.code pc = .ok (.astore k, 2)) (hv : x.isRef = true) (hl : storeLocals L k x = some L') (hp : pc + 2 = pc') (kk : Goes p.tables e below P (T.setTop (mkF m pc' L' S))) : Goes p.tables e below P (T.setTop (mkF m pc L (x :: S))) := by
  subst hp; exact kk.on fun _ k => XS.astore X.here hx rfl hd rfl hv hl k
theorem o_iconst (X : Stand p l e R s m args below meth c T locs cells slots) (hx : p.tables.exec = Jvm.exec) {i : Int} {v : Int32} (hd : decode c.code pc = .ok (.iconst i, 1)) (hv : Int32.ofInt i = v) (hp : pc + 1 = pc') (kk : Goes p.tables e below P (T.setTop (mkF m pc' L (.int v :: S)))) : Goes p.tables e below P (T.setTop (mkF m pc L S)) := by
  subst hp; subst hv; exact kk.on fun _ k => XS.iconst X.here hx rfl hd  k
theorem o_bipush (X : Stand p l e R s m args below meth c T locs cells slots) (hx : p.tables.exec = Jvm.exec) {i : Int} {v : Int32} (hd : decode c.code pc = .ok (.bipush i, 2)) (hv : (Int8.ofInt i).toInt32 = v) (hp : pc + 2 = pc') (kk : Goes p.tables e below P (T.setTop (mkF m pc' L (.int v :: S)))) : Goes p.tables e below P (T.setTop (mkF m pc L S)) := by
  subst hp; subst hv; exact kk.on fun _ k => XS.bipush X.here hx rfl hd  k
theorem o_sipush (X : Stand p l e R s m args below meth c T locs cells slots) (hx : p.tables.exec = Jvm.exec) {i : Int} {v : Int32} (hd : decode c.code pc = .ok (.sipush i, 3)) (hv : (Int16.ofInt i).toInt32 = v) (hp : pc + 3 = pc') (kk : Goes p.tables e below P (T.setTop (mkF m pc' L (.int v :: S)))) : Goes p.tables e below P (T.setTop (mkF m pc L S)) := by
  subst hp; subst hv; exact kk.on fun _ k => XS.sipush X.here hx rfl hd  k
theorem o_lconst (X : Stand p l e R s m args below meth c T locs cells slots) (hx : p.tables.exec = Jvm.exec) {k : Fin 2} {v : Int64} (hd : decode c.code pc = .ok (.lconst k, 1)) (hv : Int64.ofNat k = v) (hp : pc + 1 = pc') (kk : Goes p.tables e below P (T.setTop (mkF m pc' L (.long v :: S)))) : Goes p.tables e below P (T.setTop (mkF m pc L S)) := by
  subst hp; subst hv; exact kk.on fun _ k => XS.lconst X.here hx rfl hd  k
theorem o_aconstNull (X : Stand p l e R s m args below meth c T locs cells slots) (hx : p.tables.exec = Jvm.exec)  (hd : decode c.code pc = .ok (.aconst_null, 1)) (hp : pc + 1 = pc') (kk : Goes p.tables e below P (T.setTop (mkF m pc' L (.null :: S)))) : Goes p.tables e below P (T.setTop (mkF m pc L S)) := by
  subst hp; exact kk.on fun _ k => XS.aconstNull X.here hx rfl hd  k
theorem o_iadd (X : Stand p l e R s m args below meth c T locs cells slots) (hx : p.tables.exec = Jvm.exec) {x y : Int32} (hd : decode c.code pc = .ok (.iadd, 1)) (hp : pc + 1 = pc') (kk : Goes p.tables e below P (T.setTop (mkF m pc' L (.int (x + y) :: S)))) : Goes p.tables e below P (T.setTop (mkF m pc L (.int y :: .int x :: S))) := by
  subst hp; exact kk.on fun _ k => XS.iadd X.here hx rfl hd rfl k
theorem o_isub (X : Stand p l e R s m args below meth c T locs cells slots) (hx : p.tables.exec = Jvm.exec) {x y : Int32} (hd : decode c.code pc = .ok (.isub, 1)) (hp : pc + 1 = pc') (kk : Goes p.tables e below P (T.setTop (mkF m pc' L (.int (x - y) :: S)))) : Goes p.tables e below P (T.setTop (mkF m pc L (.int y :: .int x :: S))) := by
  subst hp; exact kk.on fun _ k => XS.isub X.here hx rfl hd rfl k
theorem o_imul (X : Stand p l e R s m args below meth c T locs cells slots) (hx : p.tables.exec = Jvm.exec) {x y : Int32} (hd : decode c.code pc = .ok (.imul, 1)) (hp : pc + 1 = pc') (kk : Goes p.tables e below P (T.setTop (mkF m pc' L (.int (x * y) :: S)))) : Goes p.tables e below P (T.setTop (mkF m pc L (.int y :: .int x :: S))) := by
  subst hp; exact kk.on fun _ k => XS.imul X.here hx rfl hd rfl k
theorem o_iand (X : Stand p l e R s m args below meth c T locs cells slots) (hx : p.tables.exec = Jvm.exec) {x y : Int32} (hd : decode c.code pc = .ok (.iand, 1)) (hp : pc + 1 = pc') (kk : Goes p.tables e below P (T.setTop (mkF m pc' L (.int (x &&& y) :: S)))) : Goes p.tables e below P (T.setTop (mkF m pc L (.int y :: .int x :: S))) := by
  subst hp; exact kk.on fun _ k => XS.iand X.here hx rfl hd rfl k
theorem o_ior (X : Stand p l e R s m args below meth c T locs cells slots) (hx : p.tables.exec = Jvm.exec) {x y : Int32} (hd : decode c.code pc = .ok (.ior, 1)) (hp : pc + 1 = pc') (kk : Goes p.tables e below P (T.setTop (mkF m pc' L (.int (x ||| y) :: S)))) : Goes p.tables e below P (T.setTop (mkF m pc L (.int y :: .int x :: S))) := by
  subst hp; exact kk.on fun _ k => XS.ior X.here hx rfl hd rfl k
theorem o_ixor (X : Stand p l e R s m args below meth c T locs cells slots) (hx : p.tables.exec = Jvm.exec) {x y : Int32} (hd : decode c.code pc = .ok (.ixor, 1)) (hp : pc + 1 = pc') (kk : Goes p.tables e below P (T.setTop (mkF m pc' L (.int (x ^^^ y) :: S)))) : Goes p.tables e below P (T.setTop (mkF m pc L (.int y :: .int x :: S))) := by
  subst hp; exact kk.on fun _ k => XS.ixor X.here hx rfl hd rfl k
theorem o_ishl (X : Stand p l e R s m args below meth c T locs cells slots) (hx : p.tables.exec = Jvm.exec) {x y : Int32} (hd : decode c.code pc = .ok (.ishl, 1)) (hp : pc + 1 = pc') (kk : Goes p.tables e below P (T.setTop (mkF m pc' L (.int (x <<< (y &&& 31)) :: S)))) : Goes p.tables e below P (T.setTop (mkF m pc L (.int y :: .int x :: S))) := by
  subst hp; exact kk.on fun _ k => XS.ishl X.here hx rfl hd rfl k
theorem o_ishr (X : Stand p l e R s m args below meth c T locs cells slots) (hx : p.tables.exec = Jvm.exec) {x y : Int32} (hd : decode c.code pc = .ok (.ishr, 1)) (hp : pc + 1 = pc') (kk : Goes p.tables e below P (T.setTop (mkF m pc' L (.int (x >>> (y &&& 31)) :: S)))) : Goes p.tables e below P (T.setTop (mkF m pc L (.int y :: .int x :: S))) := by
  subst hp; exact kk.on fun _ k => XS.ishr X.here hx rfl hd rfl k
theorem o_iushr (X : Stand p l e R s m args below meth c T locs cells slots) (hx : p.tables.exec = Jvm.exec) {x y : Int32} (hd : decode c.code pc = .ok (.iushr, 1)) (hp : pc + 1 = pc') (kk : Goes p.tables e below P (T.setTop (mkF m pc' L (.int ((x.toUInt32 >>> (y &&& 31).toUInt32).toInt32) :: S)))) : Goes p.tables e below P (T.setTop (mkF m pc L (.int y :: .int x :: S))) := by
  subst hp; exact kk.on fun _ k => XS.iushr X.here hx rfl hd rfl k
theorem o_ladd (X : Stand p l e R s m args below meth c T locs cells slots) (hx : p.tables.exec = Jvm.exec) {x y : Int64} (hd : decode c.code pc = .ok (.ladd, 1)) (hp : pc + 1 = pc') (kk : Goes p.tables e below P (T.setTop (mkF m pc' L (.long (x + y) :: S)))) : Goes p.tables e below P (T.setTop (mkF m pc L (.long y :: .long x :: S))) := by
  subst hp; exact kk.on fun _ k => XS.ladd X.here hx rfl hd rfl k
theorem o_lsub (X : Stand p l e R s m args below meth c T locs cells slots) (hx : p.tables.exec = Jvm.exec) {x y : Int64} (hd : decode c.code pc = .ok (.lsub, 1)) (hp : pc + 1 = pc') (kk : Goes p.tables e below P (T.setTop (mkF m pc' L (.long (x - y) :: S)))) : Goes p.tables e below P (T.setTop (mkF m pc L (.long y :: .long x :: S))) := by
  subst hp; exact kk.on fun _ k => XS.lsub X.here hx rfl hd rfl k
theorem o_lmul (X : Stand p l e R s m args below meth c T locs cells slots) (hx : p.tables.exec = Jvm.exec) {x y : Int64} (hd : decode c.code pc = .ok (.lmul, 1)) (hp : pc + 1 = pc') (kk : Goes p.tables e below P (T.setTop (mkF m pc' L (.long (x * y) :: S)))) : Goes p.tables e below P (T.setTop (mkF m pc L (.long y :: .long x :: S))) := by
  subst hp; exact kk.on fun _ k => XS.lmul X.here hx rfl hd rfl k
theorem o_land (X : Stand p l e R s m args below meth c T locs cells slots) (hx : p.tables.exec = Jvm.exec) {x y : Int64} (hd : decode c.code pc = .ok (.land, 1)) (hp : pc + 1 = pc') (kk : Goes p.tables e below P (T.setTop (mkF m pc' L (.long (x &&& y) :: S)))) : Goes p.tables e below P (T.setTop (mkF m pc L (.long y :: .long x :: S))) := by
  subst hp; exact kk.on fun _ k => XS.land X.here hx rfl hd rfl k
theorem o_lor (X : Stand p l e R s m args below meth c T locs cells slots) (hx : p.tables.exec = Jvm.exec) {x y : Int64} (hd : decode c.code pc = .ok (.lor, 1)) (hp : pc + 1 = pc') (kk : Goes p.tables e below P (T.setTop (mkF m pc' L (.long (x ||| y) :: S)))) : Goes p.tables e below P (T.setTop (mkF m pc L (.long y :: .long x :: S))) := by
  subst hp; exact kk.on fun _ k => XS.lor X.here hx rfl hd rfl k
theorem o_lxor (X : Stand p l e R s m args below meth c T locs cells slots) (hx : p.tables.exec = Jvm.exec) {x y : Int64} (hd : decode c.code pc = .ok (.lxor, 1)) (hp : pc + 1 = pc') (kk : Goes p.tables e below P (T.setTop (mkF m pc' L (.long (x ^^^ y) :: S)))) : Goes p.tables e below P (T.setTop (mkF m pc L (.long y :: .long x :: S))) := by
  subst hp; exact kk.on fun _ k => XS.lxor X.here hx rfl hd rfl k
theorem o_lshl (X : Stand p l e R s m args below meth c T locs cells slots) (hx : p.tables.exec = Jvm.exec) {x : Int64} {y : Int32} (hd : decode c.code pc = .ok (.lshl, 1)) (hp : pc + 1 = pc') (kk : Goes p.tables e below P (T.setTop (mkF m pc' L (.long (x <<< (y &&& 0x3f).toInt64) :: S)))) : Goes p.tables e below P (T.setTop (mkF m pc L (.int y :: .long x :: S))) := by
  subst hp; exact kk.on fun _ k => XS.lshl X.here hx rfl hd rfl k
theorem o_lshr (X : Stand p l e R s m args below meth c T locs cells slots) (hx : p.tables.exec = Jvm.exec) {x : Int64} {y : Int32} (hd : decode c.code pc = .ok (.lshr, 1)) (hp : pc + 1 = pc') (kk : Goes p.tables e below P (T.setTop (mkF m pc' L (.long (x >>> (y &&& 0x3f).toInt64) :: S)))) : Goes p.tables e below P (T.setTop (mkF m pc L (.int y :: .long x :: S))) := by
  subst hp; exact kk.on fun _ k => XS.lshr X.here hx rfl hd rfl k
theorem o_lushr (X : Stand p l e R s m args below meth c T locs cells slots) (hx : p.tables.exec = Jvm.exec) {x : Int64} {y : Int32} (hd : decode c.code pc = .ok (.lushr, 1)) (hp : pc + 1 = pc') (kk : Goes p.tables e below P (T.setTop (mkF m pc' L (.long ((x.toUInt64 >>> (y &&& 0x3f).toInt64.toUInt64).toInt64) :: S)))) : Goes p.tables e below P (T.setTop (mkF m pc L (.int y :: .long x :: S))) := by
  subst hp; exact kk.on fun _ k => XS.lushr X.here hx rfl hd rfl k
theorem o_idiv (X : Stand p l e R s m args below meth c T locs cells slots) (hx : p.tables.exec = Jvm.exec) {x y : Int32} (hd : decode c.code pc = .ok (.idiv, 1)) (hy : y ≠ 0) (hp : pc + 1 = pc') (kk : Goes p.tables e below P (T.setTop (mkF m pc' L (.int (x / y) :: S)))) : Goes p.tables e below P (T.setTop (mkF m pc L (.int y :: .int x :: S))) := by
  subst hp; exact kk.on fun _ k => XS.idiv X.here hx rfl hd rfl hy k
theorem o_ldiv (X : Stand p l e R s m args below meth c T locs cells slots) (hx : p.tables.exec = Jvm.exec) {x y : Int64} (hd : decode c.code pc = .ok (.ldiv, 1)) (hy : y ≠ 0) (hp : pc + 1 = pc') (kk : Goes p.tables e below P (T.setTop (mkF m pc' L (.long (x / y) :: S)))) : Goes p.tables e below P (T.setTop (mkF m pc L (.long y :: .long x :: S))) := by
  subst hp; exact kk.on fun _ k => XS.ldiv X.here hx rfl hd rfl hy k
theorem o_lrem (X : Stand p l e R s m args below meth c T locs cells slots) (hx : p.tables.exec = Jvm.exec) {x y : Int64} (hd : decode c.code pc = .ok (.lrem, 1)) (hy : y ≠ 0) (hp : pc + 1 = pc') (kk : Goes p.tables e below P (T.setTop (mkF m pc' L (.long (x - (x / y) * y) :: S)))) : Goes p.tables e below P (T.setTop (mkF m pc L (.long y :: .long x :: S))) := by
  subst hp; exact kk.on fun _ k => XS.lrem X.here hx rfl hd rfl hy k
theorem o_irem (X : Stand p l e R s m args below meth c T locs cells slots) (hx : p.tables.exec = Jvm.exec) {x y : Int32} (hd : decode c.code pc = .ok (.irem, 1)) (hy : y ≠ 0) (hp : pc + 1 = pc') (kk : Goes p.tables e below P (T.setTop (mkF m pc' L (.int (x % y) :: S)))) : Goes p.tables e below P (T.setTop (mkF m pc L (.int y :: .int x :: S))) := by
  subst hp; exact kk.on fun _ k => iremM X hx rfl hd rfl hy k
theorem o_i2l (X : Stand p l e R s m args below meth c T locs cells slots) (hx : p.tables.exec = Jvm.exec) {x : Int32} (hd : decode c.code pc = .ok (.i2l, 1)) (hp : pc + 1 = pc') (kk : Goes p.tables e below P (T.setTop (mkF m pc' L (.long (x.toInt64) :: S)))) : Goes p.tables e below P (T.setTop (mkF m pc L (.int x :: S))) := by
  subst hp; exact kk.on fun _ k => XS.i2l X.here hx rfl hd rfl k
theorem o_l2i (X : Stand p l e R s m args below meth c T locs cells slots) (hx : p.tables.exec = Jvm.exec) {x : Int64} (hd : decode c.code pc = .ok (.l2i, 1)) (hp : pc + 1 = pc') (kk : Goes p.tables e below P (T.setTop (mkF m pc' L (.int (x.toInt32) :: S)))) : Goes p.tables e below P (T.setTop (mkF m pc L (.long x :: S))) := by
  subst hp; exact kk.on fun _ k => XS.l2i X.here hx rfl hd rfl k
theorem o_i2b (X : Stand p l e R s m args below meth c T locs cells slots) (hx : p.tables.exec = Jvm.exec) {x : Int32} (hd : decode c.code pc = .ok (.i2b, 1)) (hp : pc + 1 = pc') (kk : Goes p.tables e below P (T.setTop (mkF m pc' L (.int (x.toInt8.toInt32) :: S)))) : Goes p.tables e below P (T.setTop (mkF m pc L (.int x :: S))) := by
  subst hp; exact kk.on fun _ k => XS.i2b X.here hx rfl hd rfl k
theorem o_i2s (X : Stand p l e R s m args below meth c T locs cells slots) (hx : p.tables.exec = Jvm.exec) {x : Int32} (hd : decode c.code pc = .ok (.i2s, 1)) (hp : pc + 1 = pc') (kk : Goes p.tables e below P (T.setTop (mkF m pc' L (.int (x.toInt16.toInt32) :: S)))) : Goes p.tables e below P (T.setTop (mkF m pc L (.int x :: S))) := by
  subst hp; exact kk.on fun _ k => XS.i2s X.here hx rfl hd rfl k
theorem o_i2c (X : Stand p l e R s m args below meth c T locs cells slots) (hx : p.tables.exec = Jvm.exec) {x : Int32} (hd : decode c.code pc = .ok (.i2c, 1)) (hp : pc + 1 = pc') (kk : Goes p.tables e below P (T.setTop (mkF m pc' L (.int (x.toUInt32.toUInt16.toUInt32.toInt32) :: S)))) : Goes p.tables e below P (T.setTop (mkF m pc L (.int x :: S))) := by
  subst hp; exact kk.on fun _ k => XS.i2c X.here hx rfl hd rfl k
theorem o_ineg (X : Stand p l e R s m args below meth c T locs cells slots) (hx : p.tables.exec = Jvm.exec) {x : Int32} (hd : decode c.code pc = .ok (.ineg, 1)) (hp : pc + 1 = pc') (kk : Goes p.tables e below P (T.setTop (mkF m pc' L (.int (-x) :: S)))) : Goes p.tables e below P (T.setTop (mkF m pc L (.int x :: S))) := by
  subst hp; exact kk.on fun _ k => XS.ineg X.here hx rfl hd rfl k
theorem o_lneg (X : Stand p l e R s m args below meth c T locs cells slots) (hx : p.tables.exec = Jvm.exec) {x : Int64} (hd : decode c.code pc = .ok (.lneg, 1)) (hp : pc + 1 = pc') (kk : Goes p.tables e below P (T.setTop (mkF m pc' L (.long (-x) :: S)))) : Goes p.tables e below P (T.setTop (mkF m pc L (.long x :: S))) := by
  subst hp; exact kk.on fun _ k => XS.lneg X.here hx rfl hd rfl k
theorem o_lcmp (X : Stand p l e R s m args below meth c T locs cells slots) (hx : p.tables.exec = Jvm.exec) {x y : Int64} (hd : decode c.code pc = .ok (.lcmp, 1)) (hp : pc + 1 = pc') (kk : Goes p.tables e below P (T.setTop (mkF m pc' L (.int (lcmpW x y) :: S)))) : Goes p.tables e below P (T.setTop (mkF m pc L (.long y :: .long x :: S))) := by
  subst hp; exact kk.on fun _ k => XS.lcmp X.here hx rfl hd rfl k
theorem o_dup (X : Stand p l e R s m args below meth c T locs cells slots) (hx : p.tables.exec = Jvm.exec) {x : Value} (hd : decode c.code pc = .ok (.dup, 1)) (hc : x.category = 1) (hp : pc + 1 = pc') (kk : Goes p.tables e below P (T.setTop (mkF m pc' L (x :: x :: S)))) : Goes p.tables e below P (T.setTop (mkF m pc L (x :: S))) := by
  subst hp; exact kk.on fun _ k => XS.dup X.here hx rfl hd rfl hc k
theorem o_pop (X : Stand p l e R s m args below meth c T locs cells slots) (hx : p.tables.exec = Jvm.exec) {x : Value} (hd : decode c.code pc = .ok (.pop, 1)) (hc : x.category = 1) (hp : pc + 1 = pc') (kk : Goes p.tables e below P (T.setTop (mkF m pc' L S))) : Goes p.tables e below P (T.setTop (mkF m pc L (x :: S))) := by
  subst hp; exact kk.on fun _ k => XS.pop X.here hx rfl hd rfl hc k
theorem o_dupX1 (X : Stand p l e R s m args below meth c T locs cells slots) (hx : p.tables.exec = Jvm.exec) {x y : Value} (hd : decode c.code pc = .ok (.dup_x1, 1)) (hc : x.category = 1) (hc2 : y.category = 1) (hp : pc + 1 = pc') (kk : Goes p.tables e below P (T.setTop (mkF m pc' L (x :: y :: x :: S)))) : Goes p.tables e below P (T.setTop (mkF m pc L (x :: y :: S))) := by
  subst hp; exact kk.on fun _ k => XS.dupX1 X.here hx rfl hd rfl hc hc2 k
theorem o_iinc (X : Stand p l e R s m args below meth c T locs cells slots) (hx : p.tables.exec = Jvm.exec) {k : Nat} {cst : Int} {x v : Int32} (hd : decode c.code pc = .ok (.iinc k cst, 3)) (hl : L[k]? = some (.val (.int x))) (hv : x + Int32.ofInt cst = v) (hl' : storeLocals L k (.int v) = some L') (hp : pc + 3 = pc') (kk : Goes p.tables e below P (T.setTop (mkF m pc' L' S))) : Goes p.tables e below P (T.setTop (mkF m pc L S)) := by
  subst hp; subst hv; exact kk.on fun _ k => XS.iinc X.here hx rfl hd hl hl' k
theorem o_goto (X : Stand p l e R s m args below meth c T locs cells slots) (hx : p.tables.exec = Jvm.exec)  {o : Int} (hd : decode c.code pc = .ok (.goto o, 3)) (ho : 0 ≤ (pc : Int) + o) (hp : ((pc : Int) + o).toNat = pc') (kk : Goes p.tables e below P (T.setTop (mkF m pc' L S))) : Goes p.tables e below P (T.setTop (mkF m pc L S)) :=
  kk.on fun _ k => XS.goto X.here hx rfl (pc0 := pc) rfl hd  ho hp k
theorem o_ifYes (X : Stand p l e R s m args below meth c T locs cells slots) (hx : p.tables.exec = Jvm.exec) {cd : ClassFile.Cond} {x : Int32} {o : Int} (hd : decode c.code pc = .ok (.ifCond cd o, 3)) (hc : ifCond.holds cd x = true) (ho : 0 ≤ (pc : Int) + o) (hp : ((pc : Int) + o).toNat = pc') (kk : Goes p.tables e below P (T.setTop (mkF m pc' L S))) : Goes p.tables e below P (T.setTop (mkF m pc L (.int x :: S))) :=
  kk.on fun _ k => XS.ifYes X.here hx rfl (pc0 := pc) rfl hd rfl hc ho hp k
theorem o_icmpYes (X : Stand p l e R s m args below meth c T locs cells slots) (hx : p.tables.exec = Jvm.exec) {cd : ClassFile.Cond} {x y : Int32} {o : Int} (hd : decode c.code pc = .ok (.if_icmp cd o, 3)) (hc : if_icmp.holds cd x y = true) (ho : 0 ≤ (pc : Int) + o) (hp : ((pc : Int) + o).toNat = pc') (kk : Goes p.tables e below P (T.setTop (mkF m pc' L S))) : Goes p.tables e below P (T.setTop (mkF m pc L (.int y :: .int x :: S))) :=
  kk.on fun _ k => XS.icmpYes X.here hx rfl (pc0 := pc) rfl hd rfl hc ho hp k
theorem o_ifnullYes (X : Stand p l e R s m args below meth c T locs cells slots) (hx : p.tables.exec = Jvm.exec)  {o : Int} (hd : decode c.code pc = .ok (.ifnull o, 3)) (ho : 0 ≤ (pc : Int) + o) (hp : ((pc : Int) + o).toNat = pc') (kk : Goes p.tables e below P (T.setTop (mkF m pc' L S))) : Goes p.tables e below P (T.setTop (mkF m pc L (.null :: S))) :=
  kk.on fun _ k => XS.ifnullYes X.here hx rfl (pc0 := pc) rfl hd rfl ho hp k
theorem o_ifnonnullYes (X : Stand p l e R s m args below meth c T locs cells slots) (hx : p.tables.exec = Jvm.exec) {b : Addr} {o : Int} (hd : decode c.code pc = .ok (.ifnonnull o, 3)) (ho : 0 ≤ (pc : Int) + o) (hp : ((pc : Int) + o).toNat = pc') (kk : Goes p.tables e below P (T.setTop (mkF m pc' L S))) : Goes p.tables e below P (T.setTop (mkF m pc L (.ref b :: S))) :=
  kk.on fun _ k => XS.ifnonnullYes X.here hx rfl (pc0 := pc) rfl hd rfl ho hp k
theorem o_ifNo (X : Stand p l e R s m args below meth c T locs cells slots) (hx : p.tables.exec = Jvm.exec) {cd : ClassFile.Cond} {o : Int} {x : Int32} (hd : decode c.code pc = .ok (.ifCond cd o, 3)) (hc : ifCond.holds cd x = false) (hp : pc + 3 = pc') (kk : Goes p.tables e below P (T.setTop (mkF m pc' L S))) : Goes p.tables e below P (T.setTop (mkF m pc L (.int x :: S))) := by
  subst hp; exact kk.on fun _ k => XS.ifNo X.here hx rfl hd rfl hc k
theorem o_icmpNo (X : Stand p l e R s m args below meth c T locs cells slots) (hx : p.tables.exec = Jvm.exec) {cd : ClassFile.Cond} {o : Int} {x y : Int32} (hd : decode c.code pc = .ok (.if_icmp cd o, 3)) (hc : if_icmp.holds cd x y = false) (hp : pc + 3 = pc') (kk : Goes p.tables e below P (T.setTop (mkF m pc' L S))) : Goes p.tables e below P (T.setTop (mkF m pc L (.int y :: .int x :: S))) := by
  subst hp; exact kk.on fun _ k => XS.icmpNo X.here hx rfl hd rfl hc k
theorem o_ifnullNo (X : Stand p l e R s m args below meth c T locs cells slots) (hx : p.tables.exec = Jvm.exec) {o : Int} {b : Addr} (hd : decode c.code pc = .ok (.ifnull o, 3)) (hp : pc + 3 = pc') (kk : Goes p.tables e below P (T.setTop (mkF m pc' L S))) : Goes p.tables e below P (T.setTop (mkF m pc L (.ref b :: S))) := by
  subst hp; exact kk.on fun _ k => XS.ifnullNo X.here hx rfl hd rfl k
theorem o_ifnonnullNo (X : Stand p l e R s m args below meth c T locs cells slots) (hx : p.tables.exec = Jvm.exec) {o : Int} (hd : decode c.code pc = .ok (.ifnonnull o, 3)) (hp : pc + 3 = pc') (kk : Goes p.tables e below P (T.setTop (mkF m pc' L S))) : Goes p.tables e below P (T.setTop (mkF m pc L (.null :: S))) := by
  subst hp; exact kk.on fun _ k => XS.ifnonnullNo X.here hx rfl hd rfl k
theorem o_acmp (X : Stand p l e R s m args below meth c T locs cells slots) (hx : p.tables.exec = Jvm.exec) {cd : ACond} {x y : Value} {o : Int} {same : Bool} (hd : decode c.code pc = .ok (.if_acmp cd o, 3)) (h1 : x.isRef = true) (h2 : y.isRef = true) (hq : decide (x = y) = same) (ho : 0 ≤ (pc : Int) + o) (hp : pc' = if acV cd same = true then ((pc : Int) + o).toNat else pc + 3) (kk : Goes p.tables e below P (T.setTop (mkF m pc' L S))) : Goes p.tables e below P (T.setTop (mkF m pc L (y :: x :: S))) :=
  kk.on fun _ k => Jvm.RoadKit.acmp (g := mkF m pc L (y :: x :: S)) X hx rfl h1 h2 (pc0 := pc) (pc' := pc') (same := same) rfl hd rfl hq ho hp k
theorem o_tswIn (X : Stand p l e R s m args below meth c T locs cells slots) (hx : p.tables.exec = Jvm.exec) {dflt low high : Int} {offs : Array Int} {len : Nat} {o : Int} {i : Int32} (hd : decode c.code pc = .ok (.tableswitch dflt low high offs, len)) (hin : ¬ (i.toInt < low ∨ i.toInt > high)) (hoff : offs[(i.toInt - low).toNat]? = some o) (ho : 0 ≤ (pc : Int) + o) (hp : ((pc : Int) + o).toNat = pc') (kk : Goes p.tables e below P (T.setTop (mkF m pc' L S))) : Goes p.tables e below P (T.setTop (mkF m pc L (.int i :: S))) :=
  kk.on fun _ k => XS.tswIn X.here hx rfl (pc0 := pc) rfl hd rfl hin hoff ho hp k
theorem o_tswOut (X : Stand p l e R s m args below meth c T locs cells slots) (hx : p.tables.exec = Jvm.exec) {dflt low high : Int} {offs : Array Int} {len : Nat} {i : Int32} (hd : decode c.code pc = .ok (.tableswitch dflt low high offs, len)) (hout : i.toInt < low ∨ i.toInt > high) (ho : 0 ≤ (pc : Int) + dflt) (hp : ((pc : Int) + dflt).toNat = pc') (kk : Goes p.tables e below P (T.setTop (mkF m pc' L S))) : Goes p.tables e below P (T.setTop (mkF m pc L (.int i :: S))) :=
  kk.on fun _ k => XS.tswOut X.here hx rfl (pc0 := pc) rfl hd rfl hout ho hp k
theorem o_getF (X : Stand p l e R s m args below meth c T locs cells slots) (hx : p.tables.exec = Jvm.exec) (hZ : Z.Warmed39 s.vm) {own R0 O n d host : String} {index : Nat} (hown : s.vm.findClass own = some m.cls) (w : (Cond.fieldLink own index R0 n d).before a0 Z = true ∨ (Cond.fieldLinkNest own index R0 n d host).before a0 Z = true) (via : Via Z R0 O n d) (eT : T.heap = h) {a : Addr} {v : Value} (F : Fld Z h a O n d v) (hd : decode c.code pc = .ok (.getfield index, 3)) (hp : pc + 3 = pc')
    (kk : ∀ T', Stand p l e R s m args below meth c T' locs cells slots → T'.heap = h → Goes p.tables e below P (T'.setTop (mkF m pc' L (v :: S)))) : Goes p.tables e below P (T.setTop (mkF m pc L (.ref a :: S))) := by
  subst hp
  obtain ⟨T', X', e', st⟩ := getF X hx hZ hown w via eT F (g := mkF m pc L (.ref a :: S)) rfl rfl hd
  exact (kk T' X' e').on st
theorem o_getS (X : Stand p l e R s m args below meth c T locs cells slots) (hx : p.tables.exec = Jvm.exec) (hZ : Z.Warmed39 s.vm) {own R0 O n d host : String} {index : Nat} (hown : s.vm.findClass own = some m.cls) (w : (Cond.fieldLink own index R0 n d).before a0 Z = true ∨ (Cond.fieldLinkNest own index R0 n d host).before a0 Z = true) (via : Via Z R0 O n d) (eT : T.heap = h) {v : Value} (F : Sta Z h O n d v) (hd : decode c.code pc = .ok (.getstatic index, 3)) (hp : pc + 3 = pc')
    (kk : ∀ T', Stand p l e R s m args below meth c T' locs cells slots → T'.heap = h → Goes p.tables e below P (T'.setTop (mkF m pc' L (v :: S)))) : Goes p.tables e below P (T.setTop (mkF m pc L S)) := by
  subst hp
  obtain ⟨T', X', e', st⟩ := getS2 X hx hZ hown w via eT F (g := mkF m pc L S) rfl hd
  exact (kk T' X' e').on st
theorem o_putF (X : Stand p l e R s m args below meth c T locs cells slots) (hx : p.tables.exec = Jvm.exec) (hZ : Z.Warmed39 s.vm) {own R0 O n d host C : String} {index kk0 : Nat} {ty : FieldType} (hown : s.vm.findClass own = some m.cls) (w : (Cond.fieldLink own index R0 n d).before a0 Z = true ∨ (Cond.fieldLinkNest own index R0 n d host).before a0 Z = true) (via : Via Z R0 O n d) (eT : T.heap = h) {a : Addr} {v old : Value} (F : Fld Z h a O n d old) (E : Exa Z h a C) (Lw : (Cond.lays C O n d).before a0 Z = true ∨ ((Cond.laysFinal C O n d).before a0 Z = true ∧ own = O ∧ meth.name = "<init>")) (wi : (Cond.instantiable C kk0).before a0 Z = true)
    (hty : parseFieldDescriptor d = some ty) (hn : narrow ty v = v) (hf : fits ty v = true) (hd : decode c.code pc = .ok (.putfield index, 3)) (hp : pc + 3 = pc')
    (kk : ∀ T' h', Stand p l e R s m args below meth c T' (locs ++ [⟨a, Jvm.RoadKit.slotOf Z O n d⟩]) cells slots → T'.heap = h' → Wr h h' a (Jvm.RoadKit.slotOf Z O n d) v → Goes p.tables e below P (T'.setTop (mkF m pc' L S))) : Goes p.tables e below P (T.setTop (mkF m pc L (v :: .ref a :: S))) := by
  subst hp
  obtain ⟨T', h', X', e', W', st⟩ := putF X hx hZ hown w via eT F E Lw wi hty hn hf (g := mkF m pc L (v :: .ref a :: S)) rfl rfl hd
  exact (kk T' h' X' e' W').on st
theorem o_new (X : Stand p l e R s m args below meth c T locs cells slots) (hx : p.tables.exec = Jvm.exec) (hZ : Z.Warmed39 s.vm) {own C : String} {index n : Nat} (hown : s.vm.findClass own = some m.cls) (w : (Cond.classLink own index C).before a0 Z = true) (wi : (Cond.instantiable C n).before a0 Z = true) (wz : (Cond.initialized C).before a0 Z = true) (eT : T.heap = h) (hd : decode c.code pc = .ok (.new index, 3)) (hc : cells + 1 ≤ R.cells) (hl : slots + n ≤ R.slots) (hc' : cells + 1 = cells') (hs' : slots + n = slots') (hp : pc + 3 = pc')
    (kk : ∀ T' h' b, b = h.size → Stand p l e R s m args below meth c T' locs cells' slots' → T'.heap = h' → Ext h h' → Exa Z h' b C → (∀ {O nm d : String} {ty : FieldType}, Laid Z a0 C O nm d → parseFieldDescriptor d = some ty → Fld Z h' b O nm d (defaultValue ty)) → Goes p.tables e below P (T'.setTop (mkF m pc' L (.ref b :: S)))) : Goes p.tables e below P (T.setTop (mkF m pc L S)) := by
  subst hp hc' hs'
  obtain ⟨T', h', X', e', E', A', D', -, st⟩ := newO X hx hZ hown w wi wz eT (g := mkF m pc L S) rfl hd hc hl
  exact (kk T' h' _ rfl X' e' E' A' D').on st
theorem o_newP (X : Stand p l e R s m args below meth c T locs cells slots) (hx : p.tables.exec = Jvm.exec) (hZ : Z.Warmed39 s.vm) {aty : ArrayType} (w : (Cond.arrayClass (newarray.typeOf aty)).before a0 Z = true) (eT : T.heap = h) (hd : decode c.code pc = .ok (.newarray aty, 2)) {n : Int32} (hn : ¬ n < 0) {cap : Nat} (hcap : n.toNatClampNeg ≤ cap) (hb : cap * 8 ≤ 536870912) (hc : cells + 1 ≤ R.cells) (hl : slots + cap ≤ R.slots) (hc' : cells + 1 = cells') (hs' : slots + cap = slots') (hp : pc + 2 = pc')
    (kk : ∀ T' h' k b, b = h.size → Stand p l e R s m args below meth c T' locs cells' slots' → T'.heap = h' → Ext h h' → Arr Z h' b (newA k (newarray.typeOf aty) n) (newarray.typeOf aty) → Goes p.tables e below P (T'.setTop (mkF m pc' L (.ref b :: S)))) : Goes p.tables e below P (T.setTop (mkF m pc L (.int n :: S))) := by
  subst hp hc' hs'
  obtain ⟨T', h', k, X', e', E', A', st⟩ := newP X hx hZ w eT (g := mkF m pc L (.int n :: S)) rfl hd rfl hn hcap hb hc hl
  exact (kk T' h' k _ rfl X' e' E' A').on st
theorem o_initO (X : Stand p l e R s m args below meth c T locs cells slots) (hx : p.tables.exec = Jvm.exec) (hZ : Z.Warmed39 s.vm) {own : String} {idx : Nat} (hown : s.vm.findClass own = some m.cls) (w1 : (Cond.methodLink own idx Lib.objectInit).before a0 Z = true) (w2 : (Cond.instanceMethod Lib.objectInit).before a0 Z = true) (w3 : (Cond.code Lib.objectInit ⟨#[0xb1]⟩ 1 none).before a0 Z = true) (eT : T.heap = h) (hsize : L.size = c.maxLocals) {a : Addr} (hd : decode c.code pc = .ok (.invokespecial idx, 3)) (hf : 1 ≤ R.frames) {W : Nat} (hW : (S.map fun v => v.category).sum = W) (hl : W + 12 ≤ R.locals) (hp : pc + 3 = pc')
    (kk : ∀ T', Stand p l e R s m args below meth c T' locs cells slots → T'.heap = h → Goes p.tables e below P (T'.setTop (mkF m pc' L S))) : Goes p.tables e below P (T.setTop (mkF m pc L (.ref a :: S))) := by
  subst hp
  obtain ⟨T', X', e', st⟩ := initO X hx hZ hown w1 w2 w3 eT (g := mkF m pc L (.ref a :: S)) rfl hsize rfl hd hf (W := W) (by rw [← hW]; show 2 * 0 + _ ≤ _; omega) hl
  exact (kk T' X' e').on st
theorem o_stI (X : Stand p l e R s m args below meth c T locs cells slots) (hx : p.tables.exec = Jvm.exec) (hZ : Z.Warmed39 s.vm) (eT : T.heap = h) {a : Addr} {kc : ClassId} {z : Int32} {vs : List Value} {dv : Value} (A : Arv Z h a kc .int z vs dv) {j : Int32} {x : Int32} {i : Nat} (hj : ¬ j < 0 ∧ j < z) (hi : j.toNatClampNeg = i) (hv : i < vs.length) (hd : decode c.code pc = .ok (.iastore, 1)) (hp : pc + 1 = pc')
    (kk : ∀ T' h', Stand p l e R s m args below meth c T' (locs ++ [⟨a, i⟩]) cells slots → T'.heap = h' → Wr h h' a i (.int x) → Arv Z h' a kc .int z (vs.set i (.int x)) dv → Goes p.tables e below P (T'.setTop (mkF m pc' L S))) : Goes p.tables e below P (T.setTop (mkF m pc L ((.int x) :: .int j :: .ref a :: S))) := by
  subst hp
  obtain ⟨cl, A1, q1, S1, N1, H1, G1⟩ := A
  obtain ⟨T', h', X', e', W', st⟩ := stI X hx hZ eT A1 (j := j) (x := x) (inb_of S1 hj) (g := mkF m pc L ((.int x) :: .int j :: .ref a :: S)) rfl rfl hd
  have V' := Arv.set A1 q1 S1 N1 H1 G1 (rfl) W' i hi hv
  rw [hi] at X' W'
  exact (kk T' h' X' e' W' V').on st
theorem o_stJ (X : Stand p l e R s m args below meth c T locs cells slots) (hx : p.tables.exec = Jvm.exec) (hZ : Z.Warmed39 s.vm) (eT : T.heap = h) {a : Addr} {kc : ClassId} {z : Int32} {vs : List Value} {dv : Value} (A : Arv Z h a kc .long z vs dv) {j : Int32} {x : Int64} {i : Nat} (hj : ¬ j < 0 ∧ j < z) (hi : j.toNatClampNeg = i) (hv : i < vs.length) (hd : decode c.code pc = .ok (.lastore, 1)) (hp : pc + 1 = pc')
    (kk : ∀ T' h', Stand p l e R s m args below meth c T' (locs ++ [⟨a, i⟩]) cells slots → T'.heap = h' → Wr h h' a i (.long x) → Arv Z h' a kc .long z (vs.set i (.long x)) dv → Goes p.tables e below P (T'.setTop (mkF m pc' L S))) : Goes p.tables e below P (T.setTop (mkF m pc L ((.long x) :: .int j :: .ref a :: S))) := by
  subst hp
  obtain ⟨cl, A1, q1, S1, N1, H1, G1⟩ := A
  obtain ⟨T', h', X', e', W', st⟩ := stJ X hx hZ eT A1 (j := j) (x := x) (inb_of S1 hj) (g := mkF m pc L ((.long x) :: .int j :: .ref a :: S)) rfl rfl hd
  have V' := Arv.set A1 q1 S1 N1 H1 G1 (rfl) W' i hi hv
  rw [hi] at X' W'
  exact (kk T' h' X' e' W' V').on st
theorem o_stC (X : Stand p l e R s m args below meth c T locs cells slots) (hx : p.tables.exec = Jvm.exec) (hZ : Z.Warmed39 s.vm) (eT : T.heap = h) {a : Addr} {kc : ClassId} {z : Int32} {vs : List Value} {dv : Value} (A : Arv Z h a kc .char z vs dv) {j : Int32} {x : Int32} {i : Nat} (hj : ¬ j < 0 ∧ j < z) (hi : j.toNatClampNeg = i) (hv : i < vs.length) (hd : decode c.code pc = .ok (.castore, 1)) (hp : pc + 1 = pc')
    (kk : ∀ T' h', Stand p l e R s m args below meth c T' (locs ++ [⟨a, i⟩]) cells slots → T'.heap = h' → Wr h h' a i (.int (nar .char x)) → Arv Z h' a kc .char z (vs.set i (.int (nar .char x))) dv → Goes p.tables e below P (T'.setTop (mkF m pc' L S))) : Goes p.tables e below P (T.setTop (mkF m pc L ((.int x) :: .int j :: .ref a :: S))) := by
  subst hp
  obtain ⟨cl, A1, q1, S1, N1, H1, G1⟩ := A
  obtain ⟨T', h', X', e', W', st⟩ := stC X hx hZ eT A1 (j := j) (x := x) (inb_of S1 hj) (g := mkF m pc L ((.int x) :: .int j :: .ref a :: S)) rfl rfl hd
  have V' := Arv.set A1 q1 S1 N1 H1 G1 (fits_nar_char _) W' i hi hv
  rw [hi] at X' W'
  exact (kk T' h' X' e' W' V').on st
theorem o_stB (X : Stand p l e R s m args below meth c T locs cells slots) (hx : p.tables.exec = Jvm.exec) (hZ : Z.Warmed39 s.vm) (eT : T.heap = h) {a : Addr} {kc : ClassId} {z : Int32} {vs : List Value} {dv : Value} (A : Arv Z h a kc .byte z vs dv) {j : Int32} {x : Int32} {i : Nat} (hj : ¬ j < 0 ∧ j < z) (hi : j.toNatClampNeg = i) (hv : i < vs.length) (hd : decode c.code pc = .ok (.bastore, 1)) (hp : pc + 1 = pc')
    (kk : ∀ T' h', Stand p l e R s m args below meth c T' (locs ++ [⟨a, i⟩]) cells slots → T'.heap = h' → Wr h h' a i (.int (nar .byte x)) → Arv Z h' a kc .byte z (vs.set i (.int (nar .byte x))) dv → Goes p.tables e below P (T'.setTop (mkF m pc' L S))) : Goes p.tables e below P (T.setTop (mkF m pc L ((.int x) :: .int j :: .ref a :: S))) := by
  subst hp
  obtain ⟨cl, A1, q1, S1, N1, H1, G1⟩ := A
  obtain ⟨T', h', X', e', W', st⟩ := stB X hx hZ eT A1 (j := j) (x := x) (inb_of S1 hj) (g := mkF m pc L ((.int x) :: .int j :: .ref a :: S)) rfl rfl hd
  have V' := Arv.set A1 q1 S1 N1 H1 G1 (fits_nar_byte _) W' i hi hv
  rw [hi] at X' W'
  exact (kk T' h' X' e' W' V').on st
theorem o_stZ (X : Stand p l e R s m args below meth c T locs cells slots) (hx : p.tables.exec = Jvm.exec) (hZ : Z.Warmed39 s.vm) (eT : T.heap = h) {a : Addr} {kc : ClassId} {z : Int32} {vs : List Value} {dv : Value} (A : Arv Z h a kc .boolean z vs dv) {j : Int32} {x : Int32} {i : Nat} (hj : ¬ j < 0 ∧ j < z) (hi : j.toNatClampNeg = i) (hv : i < vs.length) (hd : decode c.code pc = .ok (.bastore, 1)) (hp : pc + 1 = pc')
    (kk : ∀ T' h', Stand p l e R s m args below meth c T' (locs ++ [⟨a, i⟩]) cells slots → T'.heap = h' → Wr h h' a i (.int (nar .boolean x)) → Arv Z h' a kc .boolean z (vs.set i (.int (nar .boolean x))) dv → Goes p.tables e below P (T'.setTop (mkF m pc' L S))) : Goes p.tables e below P (T.setTop (mkF m pc L ((.int x) :: .int j :: .ref a :: S))) := by
  subst hp
  obtain ⟨cl, A1, q1, S1, N1, H1, G1⟩ := A
  obtain ⟨T', h', X', e', W', st⟩ := stZ X hx hZ eT A1 (j := j) (x := x) (inb_of S1 hj) (g := mkF m pc L ((.int x) :: .int j :: .ref a :: S)) rfl rfl hd
  have V' := Arv.set A1 q1 S1 N1 H1 G1 (fits_nar_bool _) W' i hi hv
  rw [hi] at X' W'
  exact (kk T' h' X' e' W' V').on st
theorem o_stD (X : Stand p l e R s m args below meth c T locs cells slots) (hx : p.tables.exec = Jvm.exec) (hZ : Z.Warmed39 s.vm) (eT : T.heap = h) {a : Addr} {kc : ClassId} {z : Int32} {vs : List Value} {dv : Value} (A : Arv Z h a kc .double z vs dv) {j : Int32} {x : UInt64} {i : Nat} (hj : ¬ j < 0 ∧ j < z) (hi : j.toNatClampNeg = i) (hv : i < vs.length) (hd : decode c.code pc = .ok (.dastore, 1)) (hp : pc + 1 = pc')
    (kk : ∀ T' h', Stand p l e R s m args below meth c T' (locs ++ [⟨a, i⟩]) cells slots → T'.heap = h' → Wr h h' a i (.double x) → Arv Z h' a kc .double z (vs.set i (.double x)) dv → Goes p.tables e below P (T'.setTop (mkF m pc' L S))) : Goes p.tables e below P (T.setTop (mkF m pc L ((.double x) :: .int j :: .ref a :: S))) := by
  subst hp
  obtain ⟨cl, A1, q1, S1, N1, H1, G1⟩ := A
  obtain ⟨T', h', X', e', W', st⟩ := stD X hx hZ eT A1 (j := j) (x := x) (inb_of S1 hj) (g := mkF m pc L ((.double x) :: .int j :: .ref a :: S)) rfl rfl hd
  have V' := Arv.set A1 q1 S1 N1 H1 G1 (rfl) W' i hi hv
  rw [hi] at X' W'
  exact (kk T' h' X' e' W' V').on st
theorem o_castY (X : Stand p l e R s m args below meth c T locs cells slots) (hx : p.tables.exec = Jvm.exec) (hZ : Z.Warmed39 s.vm) {own K : String} {index : Nat} (hown : s.vm.findClass own = some m.cls) (w : (Cond.classLink own index K).before a0 Z = true) (eT : T.heap = h) {a : Addr} (F : Ins Z h a K true) (hd : decode c.code pc = .ok (.checkcast index, 3)) (hp : pc + 3 = pc')
    (kk : ∀ T', Stand p l e R s m args below meth c T' locs cells slots → T'.heap = h → Goes p.tables e below P (T'.setTop (mkF m pc' L (.ref a :: S)))) : Goes p.tables e below P (T.setTop (mkF m pc L (.ref a :: S))) := by
  subst hp
  obtain ⟨T', X', e', st⟩ := castY X hx hZ hown w eT F (g := mkF m pc L (.ref a :: S)) rfl rfl hd
  exact (kk T' X' e').on st
theorem o_instY (X : Stand p l e R s m args below meth c T locs cells slots) (hx : p.tables.exec = Jvm.exec) (hZ : Z.Warmed39 s.vm) {own K : String} {index : Nat} (hown : s.vm.findClass own = some m.cls) (w : (Cond.classLink own index K).before a0 Z = true) (eT : T.heap = h) {a : Addr} (F : Ins Z h a K true) (hd : decode c.code pc = .ok (.instanceof index, 3)) (hp : pc + 3 = pc')
    (kk : ∀ T', Stand p l e R s m args below meth c T' locs cells slots → T'.heap = h → Goes p.tables e below P (T'.setTop (mkF m pc' L (.int 1 :: S)))) : Goes p.tables e below P (T.setTop (mkF m pc L (.ref a :: S))) := by
  subst hp
  obtain ⟨T', X', e', st⟩ := instY X hx hZ hown w eT F (g := mkF m pc L (.ref a :: S)) rfl rfl hd
  exact (kk T' X' e').on st
theorem o_instNo (X : Stand p l e R s m args below meth c T locs cells slots) (hx : p.tables.exec = Jvm.exec) (hZ : Z.Warmed39 s.vm) {own K C : String} {index : Nat} (hown : s.vm.findClass own = some m.cls) (w : (Cond.classLink own index K).before a0 Z = true) (eT : T.heap = h) {a : Addr} (E : Exa Z h a C) (F : ∃ c t, Z.vm.findClass C = some c ∧ Z.vm.findClass K = some t ∧ Z.vm.assignable c t = false) (hd : decode c.code pc = .ok (.instanceof index, 3)) (hp : pc + 3 = pc')
    (kk : ∀ T', Stand p l e R s m args below meth c T' locs cells slots → T'.heap = h → Goes p.tables e below P (T'.setTop (mkF m pc' L (.int 0 :: S)))) : Goes p.tables e below P (T.setTop (mkF m pc L (.ref a :: S))) := by
  subst hp
  obtain ⟨T', X', e', st⟩ := instNo X hx hZ hown w eT E F (g := mkF m pc L (.ref a :: S)) rfl rfl hd
  exact (kk T' X' e').on st
theorem o_static (X : Stand p l e R s m args below meth c T locs cells slots) (hx : p.tables.exec = Jvm.exec) (hZ : Z.Warmed39 s.vm) {own : String} {index : Nat} {y : MethodName} {bytes : ByteArray} {maxL : Nat} {ret : Option FieldType} (hown : s.vm.findClass own = some m.cls) (w1 : (Cond.methodLink own index y).before a0 Z = true) (w2 : (Cond.static y).before a0 Z = true) (hy : y.cls ≠ "java/lang/invoke/MethodHandle" ∧ y.cls ≠ "java/lang/invoke/VarHandle") {rm : Room} {as' : Array Value} {Q : Option Value → Heap → List Loc → Prop} (hM : Met l Z y bytes maxL ret rm [] as' h Q) (hwc : (Cond.code y bytes maxL ret).before a0 Z = true) (hwi : (Cond.initialized y.cls).before a0 Z = true) (eT : T.heap = h) (hsize : L.size = c.maxLocals) {argsL rest : List Value} {W : Nat} {ps : List FieldType} {rr : Option FieldType} (hpd : parseMethodDescriptor y.desc = some ⟨ps, rr⟩) (hlen : argsL.length = ps.length) (hst : S = argsL.reverse ++ rest) (has : as' = (argsL).toArray) (hW : (rest.map fun v => v.category).sum = W) (hd : decode c.code pc = .ok (.invokestatic index, 3)) (hf : rm.frames + 1 ≤ R.frames) (hlo : W + (maxL + 11) + rm.locals ≤ R.locals) (hc : cells + rm.cells ≤ R.cells) (hs : slots + rm.slots ≤ R.slots) (hc' : cells + rm.cells = cells') (hs' : slots + rm.slots = slots') (hp : pc + 3 = pc')
    (kk : ∀ v T' h' Lc, Stand p l e R s m args below meth c T' (locs ++ Lc) cells' slots' → T'.heap = h' → Q v h' Lc → Goes p.tables e below P (T'.setTop (mkF m pc' L (v.toList ++ rest)))) : Goes p.tables e below P (T.setTop (mkF m pc L S)) := by
  subst hp hc' hs' hst has
  obtain ⟨_, _, ⟨T1, L1, k1, n1⟩, -, X1, ⟨Lc, hQ, l1, y1, z1⟩, st⟩ := Jvm.LawKit.callS X hx hown (mvT hZ w1) (mvT hZ w2) (mvT hZ hwi) (mvT hZ hwc) hy (backOf (W := W) hM hZ hwc hwi hf hlo) (g := mkF m pc L (argsL.reverse ++ rest)) rfl hsize (argsL := argsL) (rest := rest) (lenOf hpd hlen) rfl (by rw [← hW]; show 2 * 0 + _ ≤ _; omega) hd (fun _ _ => ⟨rfl, eT, hc, hs⟩)
  dsimp only [Pt.U, Pt.locs, Pt.cells, Pt.slots] at X1 l1 y1 z1 st hQ
  subst l1 y1 z1
  exact (kk _ _ _ _ X1 rfl hQ).on st
theorem o_special (X : Stand p l e R s m args below meth c T locs cells slots) (hx : p.tables.exec = Jvm.exec) (hZ : Z.Warmed39 s.vm) {own : String} {index : Nat} {y : MethodName} {bytes : ByteArray} {maxL : Nat} {ret : Option FieldType} (hr : ret = none) (hy1 : y.name = "<init>") (hown : s.vm.findClass own = some m.cls) (w1 : (Cond.methodLink own index y).before a0 Z = true) (w2 : (Cond.instanceMethod y).before a0 Z = true) (hy : y.cls ≠ "java/lang/invoke/MethodHandle" ∧ y.cls ≠ "java/lang/invoke/VarHandle") {a : Addr} {rm : Room} {as' : Array Value} {Q : Option Value → Heap → List Loc → Prop} (hM : Met l Z y bytes maxL ret rm [] as' h Q) (hwc : (Cond.code y bytes maxL ret).before a0 Z = true) (hwi : (Cond.initialized y.cls).before a0 Z = true) (eT : T.heap = h) (hsize : L.size = c.maxLocals) {argsL rest : List Value} {W : Nat} {ps : List FieldType} {rr : Option FieldType} (hpd : parseMethodDescriptor y.desc = some ⟨ps, rr⟩) (hlen : argsL.length = ps.length) (hst : S = argsL.reverse ++ .ref a :: rest) (has : as' = (.ref a :: argsL).toArray) (hW : (rest.map fun v => v.category).sum = W) (hd : decode c.code pc = .ok (.invokespecial index, 3)) (hf : rm.frames + 1 ≤ R.frames) (hlo : W + (maxL + 11) + rm.locals ≤ R.locals) (hc : cells + rm.cells ≤ R.cells) (hs : slots + rm.slots ≤ R.slots) (hc' : cells + rm.cells = cells') (hs' : slots + rm.slots = slots') (hp : pc + 3 = pc')
    (kk : ∀ v T' h' Lc, Stand p l e R s m args below meth c T' (locs ++ Lc) cells' slots' → T'.heap = h' → Q v h' Lc → Goes p.tables e below P (T'.setTop (mkF m pc' L (v.toList ++ rest)))) : Goes p.tables e below P (T.setTop (mkF m pc L S)) := by
  subst hp hc' hs' hst has hr
  obtain ⟨_, _, ⟨T1, L1, k1, n1⟩, -, X1, ⟨Lc, hQ, l1, y1, z1⟩, st⟩ := X.specialBack hx hy1 hown (mvT hZ w1) (mvT hZ w2) (mvT hZ hwc) hy (backOf (W := W) hM hZ hwc hwi hf hlo) (g := mkF m pc L (argsL.reverse ++ .ref a :: rest)) rfl hsize (Steps.refl _) (a := a) (argsL := argsL) (rest := rest) (lenOf hpd hlen) rfl (by rw [← hW]; show 2 * 0 + _ ≤ _; omega) hd (fun _ _ => ⟨rfl, eT, hc, hs⟩)
  dsimp only [Pt.U, Pt.locs, Pt.cells, Pt.slots] at X1 l1 y1 z1 st hQ
  subst l1 y1 z1
  exact (kk _ _ _ _ X1 rfl hQ).to st
theorem o_virtual (X : Stand p l e R s m args below meth c T locs cells slots) (hx : p.tables.exec = Jvm.exec) (hZ : Z.Warmed39 s.vm) {own C : String} {index : Nat} {y z : MethodName} {bytes : ByteArray} {maxL : Nat} {ret : Option FieldType} (hown : s.vm.findClass own = some m.cls) (w1 : (Cond.methodLink own index y).before a0 Z = true) (w2 : (Cond.declares y).before a0 Z = true) (hnf : NotFace s y) (w3 : (Cond.selects C y z).before a0 Z = true) (w4 : (Cond.instanceMethod z).before a0 Z = true) (hy : y.cls ≠ "java/lang/invoke/MethodHandle" ∧ y.cls ≠ "java/lang/invoke/VarHandle") {a : Addr} (E : Exa Z h a C) {rm : Room} {as' : Array Value} {Q : Option Value → Heap → List Loc → Prop} (hM : Met l Z z bytes maxL ret rm [] as' h Q) (hwc : (Cond.code z bytes maxL ret).before a0 Z = true) (hwi : (Cond.initialized z.cls).before a0 Z = true) (eT : T.heap = h) (hsize : L.size = c.maxLocals) {argsL rest : List Value} {W : Nat} {ps : List FieldType} {rr : Option FieldType} (hpd : parseMethodDescriptor y.desc = some ⟨ps, rr⟩) (hlen : argsL.length = ps.length) (hst : S = argsL.reverse ++ .ref a :: rest) (has : as' = (.ref a :: argsL).toArray) (hW : (rest.map fun v => v.category).sum = W) (hd : decode c.code pc = .ok (.invokevirtual index, 3)) (hf : rm.frames + 1 ≤ R.frames) (hlo : W + (maxL + 11) + rm.locals ≤ R.locals) (hc : cells + rm.cells ≤ R.cells) (hs : slots + rm.slots ≤ R.slots) (hc' : cells + rm.cells = cells') (hs' : slots + rm.slots = slots') (hp : pc + 3 = pc')
    (kk : ∀ v T' h' Lc, Stand p l e R s m args below meth c T' (locs ++ Lc) cells' slots' → T'.heap = h' → Q v h' Lc → Goes p.tables e below P (T'.setTop (mkF m pc' L (v.toList ++ rest)))) : Goes p.tables e below P (T.setTop (mkF m pc L S)) := by
  subst hp hc' hs' hst has
  obtain ⟨cq, kq, qa, qb, qc⟩ := isOf (T := T) hZ eT E
  obtain ⟨_, _, ⟨T1, L1, k1, n1⟩, -, X1, ⟨Lc, hQ, l1, y1, z1⟩, st⟩ := X.virtualBack hx hown (mvT hZ w1) (mvT hZ w2) hnf (mvT hZ w3) (mvT hZ w4) hy (backOf (W := W) hM hZ hwc hwi hf hlo) qa qc (g := mkF m pc L (argsL.reverse ++ .ref a :: rest)) rfl hsize (Steps.refl _) (argsL := argsL) (rest := rest) (lenOf hpd hlen) rfl (by rw [← hW]; show 2 * 0 + _ ≤ _; omega) hd (fun _ _ => ⟨rfl, eT, hc, hs⟩)
  dsimp only [Pt.U, Pt.locs, Pt.cells, Pt.slots] at X1 l1 y1 z1 st hQ
  subst l1 y1 z1
  exact (kk _ _ _ _ X1 rfl hQ).to st
theorem o_iface (X : Stand p l e R s m args below meth c T locs cells slots) (hx : p.tables.exec = Jvm.exec) (hZ : Z.Warmed39 s.vm) {own C : String} {index count : Nat} {xi y : MethodName} {bytes : ByteArray} {maxL : Nat} {ret : Option FieldType} (hown : s.vm.findClass own = some m.cls) (w1 : (Cond.methodLink own index xi).before a0 Z = true) (w2 : (Cond.declares xi).before a0 Z = true) (w3 : (Cond.interfaceMethod xi.cls xi.cls xi.name xi.desc).before args s = true) (w4 : (Cond.selects C xi y).before a0 Z = true) (w5 : (Cond.instanceMethod y).before a0 Z = true) (w6 : (Cond.publicMethod y).before a0 Z = true) (w7 : (Cond.unhidden C xi.name xi.desc).before a0 Z = true) (w8 : (Cond.castable C xi.cls).before a0 Z = true) (hy : xi.cls ≠ "java/lang/invoke/MethodHandle" ∧ xi.cls ≠ "java/lang/invoke/VarHandle") {a : Addr} (E : Exa Z h a C) {rm : Room} {as' : Array Value} {Q : Option Value → Heap → List Loc → Prop} (hM : Met l Z y bytes maxL ret rm [] as' h Q) (hwc : (Cond.code y bytes maxL ret).before a0 Z = true) (hwi : (Cond.initialized y.cls).before a0 Z = true) (eT : T.heap = h) (hsize : L.size = c.maxLocals) {argsL rest : List Value} {W : Nat} {ps : List FieldType} {rr : Option FieldType} (hpd : parseMethodDescriptor xi.desc = some ⟨ps, rr⟩) (hlen : argsL.length = ps.length) (hst : S = argsL.reverse ++ .ref a :: rest) (has : as' = (.ref a :: argsL).toArray) (hW : (rest.map fun v => v.category).sum = W) (hd : decode c.code pc = .ok (.invokeinterface index count, 5)) (hf : rm.frames + 1 ≤ R.frames) (hlo : W + (maxL + 11) + rm.locals ≤ R.locals) (hc : cells + rm.cells ≤ R.cells) (hs : slots + rm.slots ≤ R.slots) (hc' : cells + rm.cells = cells') (hs' : slots + rm.slots = slots') (hp : pc + 5 = pc')
    (kk : ∀ v T' h' Lc, Stand p l e R s m args below meth c T' (locs ++ Lc) cells' slots' → T'.heap = h' → Q v h' Lc → Goes p.tables e below P (T'.setTop (mkF m pc' L (v.toList ++ rest)))) : Goes p.tables e below P (T.setTop (mkF m pc L S)) := by
  subst hp hc' hs' hst has
  obtain ⟨cq, kq, qa, qb, qc⟩ := isOf (T := T) hZ eT E
  obtain ⟨_, _, ⟨T1, L1, k1, n1⟩, -, X1, ⟨Lc, hQ, l1, y1, z1⟩, st⟩ := X.interfaceBack hx hown (mvT hZ w1) (mvT hZ w2) w3 (mvT hZ w4) (mvT hZ w5) (mvT hZ w6) (mvT hZ w7) (mvT hZ w8) hy (backOf (W := W) hM hZ hwc hwi hf hlo) qa qb qc (g := mkF m pc L (argsL.reverse ++ .ref a :: rest)) rfl hsize (Steps.refl _) (argsL := argsL) (rest := rest) (lenOf hpd hlen) rfl (by rw [← hW]; show 2 * 0 + _ ≤ _; omega) hd (fun _ _ => ⟨rfl, eT, hc, hs⟩)
  dsimp only [Pt.U, Pt.locs, Pt.cells, Pt.slots] at X1 l1 y1 z1 st hQ
  subst l1 y1 z1
  exact (kk _ _ _ _ X1 rfl hQ).to st
theorem o_virtualUp (X : Stand p l e R s m args below meth c T locs cells slots) (hx : p.tables.exec = Jvm.exec) (hZ : Z.Warmed39 s.vm) {own C owner : String} {index : Nat} {x y : MethodName} {bytes : ByteArray} {maxL : Nat} {ret : Option FieldType} (hown : s.vm.findClass own = some m.cls) (w1 : (Cond.methodLink own index x).before a0 Z = true) (w2 : (Cond.sameMethod x.cls owner x.name x.desc).before a0 Z = true) (w2' : (Cond.declares ⟨owner, x.name, x.desc⟩).before a0 Z = true) (w3 : (Cond.selects C x y).before a0 Z = true) (w4 : (Cond.instanceMethod y).before a0 Z = true) (hy : owner ≠ "java/lang/invoke/MethodHandle" ∧ owner ≠ "java/lang/invoke/VarHandle") {a : Addr} (E : Exa Z h a C) {rm : Room} {as' : Array Value} {Q : Option Value → Heap → List Loc → Prop} (hM : Met l Z y bytes maxL ret rm [] as' h Q) (hwc : (Cond.code y bytes maxL ret).before a0 Z = true) (hwi : (Cond.initialized y.cls).before a0 Z = true) (eT : T.heap = h) (hsize : L.size = c.maxLocals) {argsL rest : List Value} {W : Nat} {ps : List FieldType} {rr : Option FieldType} (hpd : parseMethodDescriptor x.desc = some ⟨ps, rr⟩) (hlen : argsL.length = ps.length) (hst : S = argsL.reverse ++ .ref a :: rest) (has : as' = (.ref a :: argsL).toArray) (hW : (rest.map fun v => v.category).sum = W) (hd : decode c.code pc = .ok (.invokevirtual index, 3)) (hf : rm.frames + 1 ≤ R.frames) (hlo : W + (maxL + 11) + rm.locals ≤ R.locals) (hc : cells + rm.cells ≤ R.cells) (hs : slots + rm.slots ≤ R.slots) (hc' : cells + rm.cells = cells') (hs' : slots + rm.slots = slots') (hp : pc + 3 = pc')
    (kk : ∀ v T' h' Lc, Stand p l e R s m args below meth c T' (locs ++ Lc) cells' slots' → T'.heap = h' → Q v h' Lc → Goes p.tables e below P (T'.setTop (mkF m pc' L (v.toList ++ rest)))) : Goes p.tables e below P (T.setTop (mkF m pc L S)) := by
  subst hp hc' hs' hst has
  obtain ⟨cq, kq, qa, qb, qc⟩ := isOf (T := T) hZ eT E
  obtain ⟨_, _, ⟨T1, L1, k1, n1⟩, -, X1, ⟨Lc, hQ, l1, y1, z1⟩, st⟩ := X.virtualBackUp hx hown (mvT hZ w1) (mvT hZ w2) (mvT hZ w2') hy (mvT hZ w3) (mvT hZ w4) (backOf (W := W) hM hZ hwc hwi hf hlo) qa qc (g := mkF m pc L (argsL.reverse ++ .ref a :: rest)) rfl hsize (Steps.refl _) (argsL := argsL) (rest := rest) (lenOf hpd hlen) rfl (by rw [← hW]; show 2 * 0 + _ ≤ _; omega) hd (fun _ _ => ⟨rfl, eT, hc, hs⟩)
  dsimp only [Pt.U, Pt.locs, Pt.cells, Pt.slots] at X1 l1 y1 z1 st hQ
  subst l1 y1 z1
  exact (kk _ _ _ _ X1 rfl hQ).to st
theorem o_alen (X : Stand p l e R s m args below meth c T locs cells slots) (hx : p.tables.exec = Jvm.exec) (hZ : Z.Warmed39 s.vm) (eT : T.heap = h) {a : Addr} {kc : ClassId} {ty : FieldType} {z : Int32} {vs : List Value} {dv : Value} (A : Arv Z h a kc ty z vs dv) (hd : decode c.code pc = .ok (.arraylength, 1)) (hp : pc + 1 = pc') (kk : Goes p.tables e below P (T.setTop (mkF m pc' L (.int z :: S)))) : Goes p.tables e below P (T.setTop (mkF m pc L (.ref a :: S))) := by
  subst hp
  obtain ⟨cl, A1, q1, S1, N1, H1, G1⟩ := A
  rw [← len_of S1 N1] at kk
  exact kk.on fun _ k => X.arraylength hx (by rw [eT]; exact A1.1) (State.isArrayOf_alike hZ.alike A1.2.1) (g := mkF m pc L (.ref a :: S)) rfl rfl hd _ k
theorem o_iaload (X : Stand p l e R s m args below meth c T locs cells slots) (hx : p.tables.exec = Jvm.exec) (hZ : Z.Warmed39 s.vm) (eT : T.heap = h) {a : Addr} {kc : ClassId} {z : Int32} {vs : List Value} {dv v : Value} (A : Arv Z h a kc .int z vs dv) {j : Int32} (hj : ¬ j < 0 ∧ j < z) (hv : vs.getD j.toNatClampNeg dv = v) (hd : decode c.code pc = .ok (.iaload, 1)) (hp : pc + 1 = pc') (kk : Goes p.tables e below P (T.setTop (mkF m pc' L (v :: S)))) : Goes p.tables e below P (T.setTop (mkF m pc L (.int j :: .ref a :: S))) := by
  subst hp
  obtain ⟨cl, A1, q1, S1, N1, H1, G1⟩ := A
  have hin := inb_of S1 hj
  exact kk.on fun _ k => X.iaload hx (j := j) (v := v) (by rw [eT]; exact A1.1) (State.isArrayOf_alike hZ.alike A1.2.1) A1.2.2 hin (H1.at hin hv) (g := mkF m pc L (.int j :: .ref a :: S)) rfl rfl hd _ k
theorem o_laload (X : Stand p l e R s m args below meth c T locs cells slots) (hx : p.tables.exec = Jvm.exec) (hZ : Z.Warmed39 s.vm) (eT : T.heap = h) {a : Addr} {kc : ClassId} {z : Int32} {vs : List Value} {dv v : Value} (A : Arv Z h a kc .long z vs dv) {j : Int32} (hj : ¬ j < 0 ∧ j < z) (hv : vs.getD j.toNatClampNeg dv = v) (hd : decode c.code pc = .ok (.laload, 1)) (hp : pc + 1 = pc') (kk : Goes p.tables e below P (T.setTop (mkF m pc' L (v :: S)))) : Goes p.tables e below P (T.setTop (mkF m pc L (.int j :: .ref a :: S))) := by
  subst hp
  obtain ⟨cl, A1, q1, S1, N1, H1, G1⟩ := A
  have hin := inb_of S1 hj
  exact kk.on fun _ k => X.laload hx (j := j) (v := v) (by rw [eT]; exact A1.1) (State.isArrayOf_alike hZ.alike A1.2.1) A1.2.2 hin (H1.at hin hv) (g := mkF m pc L (.int j :: .ref a :: S)) rfl rfl hd _ k
theorem o_caload (X : Stand p l e R s m args below meth c T locs cells slots) (hx : p.tables.exec = Jvm.exec) (hZ : Z.Warmed39 s.vm) (eT : T.heap = h) {a : Addr} {kc : ClassId} {z : Int32} {vs : List Value} {dv v : Value} (A : Arv Z h a kc .char z vs dv) {j : Int32} (hj : ¬ j < 0 ∧ j < z) (hv : vs.getD j.toNatClampNeg dv = v) (hd : decode c.code pc = .ok (.caload, 1)) (hp : pc + 1 = pc') (kk : Goes p.tables e below P (T.setTop (mkF m pc' L (v :: S)))) : Goes p.tables e below P (T.setTop (mkF m pc L (.int j :: .ref a :: S))) := by
  subst hp
  obtain ⟨cl, A1, q1, S1, N1, H1, G1⟩ := A
  have hin := inb_of S1 hj
  exact kk.on fun _ k => X.caload hx (j := j) (v := v) (by rw [eT]; exact A1.1) (State.isArrayOf_alike hZ.alike A1.2.1) A1.2.2 hin (H1.at hin hv) (g := mkF m pc L (.int j :: .ref a :: S)) rfl rfl hd _ k
theorem o_baloadBytes (X : Stand p l e R s m args below meth c T locs cells slots) (hx : p.tables.exec = Jvm.exec) (hZ : Z.Warmed39 s.vm) (eT : T.heap = h) {a : Addr} {kc : ClassId} {z : Int32} {vs : List Value} {dv v : Value} (A : Arv Z h a kc .byte z vs dv) {j : Int32} (hj : ¬ j < 0 ∧ j < z) (hv : vs.getD j.toNatClampNeg dv = v) (hd : decode c.code pc = .ok (.baload, 1)) (hp : pc + 1 = pc') (kk : Goes p.tables e below P (T.setTop (mkF m pc' L (v :: S)))) : Goes p.tables e below P (T.setTop (mkF m pc L (.int j :: .ref a :: S))) := by
  subst hp
  obtain ⟨cl, A1, q1, S1, N1, H1, G1⟩ := A
  have hin := inb_of S1 hj
  exact kk.on fun _ k => X.baloadBytes hx (j := j) (v := v) (by rw [eT]; exact A1.1) (State.isArrayOf_alike hZ.alike A1.2.1) A1.2.2 hin (H1.at hin hv) (g := mkF m pc L (.int j :: .ref a :: S)) rfl rfl hd _ k
theorem o_daload (X : Stand p l e R s m args below meth c T locs cells slots) (hx : p.tables.exec = Jvm.exec) (hZ : Z.Warmed39 s.vm) (eT : T.heap = h) {a : Addr} {kc : ClassId} {z : Int32} {vs : List Value} {dv v : Value} (A : Arv Z h a kc .double z vs dv) {j : Int32} (hj : ¬ j < 0 ∧ j < z) (hv : vs.getD j.toNatClampNeg dv = v) (hd : decode c.code pc = .ok (.daload, 1)) (hp : pc + 1 = pc') (kk : Goes p.tables e below P (T.setTop (mkF m pc' L (v :: S)))) : Goes p.tables e below P (T.setTop (mkF m pc L (.int j :: .ref a :: S))) := by
  subst hp
  obtain ⟨cl, A1, q1, S1, N1, H1, G1⟩ := A
  have hin := inb_of S1 hj
  exact kk.on fun _ k => X.daload hx (j := j) (v := v) (by rw [eT]; exact A1.1) (State.isArrayOf_alike hZ.alike A1.2.1) A1.2.2 hin (H1.at hin hv) (g := mkF m pc L (.int j :: .ref a :: S)) rfl rfl hd _ k
end Own
theorem own_c255 (x : Int32) : ¬ ((255 : Int32) < (((x &&& (255 : Int32)).toUInt32.toUInt16.toUInt32.toInt32))) := by
  have t : ∀ k : Fin 256, ¬ (255 : Int32) < ((Int32.ofNat k.val).toUInt32.toUInt16.toUInt32.toInt32) := by decide +kernel
  have h : (x &&& 255).toBitVec.toNat < 256 := by
    simp only [Int32.toBitVec_and, BitVec.toNat_and]
    exact Nat.lt_succ_of_le Nat.and_le_right
  have e : (x &&& 255) = Int32.ofNat (x &&& 255).toBitVec.toNat := by
    apply Int32.toBitVec_inj.mp
    show _ = BitVec.ofNat 32 _
    rw [BitVec.ofNat_toNat]; simp
  rw [e]
  exact t ⟨_, h⟩
theorem own_next {x : Int64} (h : ¬ (x = (9223372036854775807 : Int64))) : x < x + (1 : Int64) := by
  rw [Int64.lt_iff_toInt_lt]
  have h1 : x.toInt ≠ 9223372036854775807 := fun q => h (Int64.toInt_inj.mp (by rw [q]; rfl))
  have h2 := x.toInt_lt; have h3 := x.le_toInt
  rw [Int64.toInt_add, show (1 : Int64).toInt = 1 from rfl, Int.bmod_eq_of_le (by omega) (by omega)]; omega
theorem own_min {a b r u c : Int64} (hr : r = a ∧ ¬ (b < a) ∨ r = b ∧ b < a) (hu : u = a ∧ ¬ (a < b) ∨ u = b ∧ a < b) (h : ¬ (c < u)) : ¬ (c < r) := by
  simp only [Int64.lt_iff_toInt_lt] at *
  rcases hr with ⟨rfl, h1⟩ | ⟨rfl, h1⟩ <;> rcases hu with ⟨rfl, h2⟩ | ⟨rfl, h2⟩ <;> omega
theorem wd0 {Z : State} {a0 : Array Value} (hw : ∀ d ∈ tables_1, d.before a0 Z = true) : (Jvm.Cond.methodLink "com/example/hybrev/hybrev/UserRevocationRevokesPinLaw" (25 : Nat) ({ cls := "java/lang/String", name := "valueOf", desc := "(C)Ljava/lang/String;" } : Jvm.MethodName)).before a0 Z = true := hw _ (List.mem_of_getElem? (i := 0) rfl)
theorem wd1 {Z : State} {a0 : Array Value} (hw : ∀ d ∈ tables_1, d.before a0 Z = true) : (Jvm.Cond.static ({ cls := "java/lang/String", name := "valueOf", desc := "(C)Ljava/lang/String;" } : Jvm.MethodName)).before a0 Z = true := hw _ (List.mem_of_getElem? (i := 1) rfl)
theorem wd2 {Z : State} {a0 : Array Value} (hw : ∀ d ∈ tables_1, d.before a0 Z = true) : (Jvm.Cond.initialized "java/lang/String").before a0 Z = true := hw _ (List.mem_of_getElem? (i := 2) rfl)
theorem wd3 {Z : State} {a0 : Array Value} (hw : ∀ d ∈ tables_1, d.before a0 Z = true) : (Jvm.Cond.code ({ cls := "java/lang/String", name := "valueOf", desc := "(C)Ljava/lang/String;" } : Jvm.MethodName) jdk_42_method_139_code (1 : Nat) (Option.some (Jvm.ClassFile.FieldType.object "java/lang/String"))).before a0 Z = true := hw _ (List.mem_of_getElem? (i := 3) rfl)
theorem wd4 {Z : State} {a0 : Array Value} (hw : ∀ d ∈ tables_1, d.before a0 Z = true) : (Jvm.Cond.fieldLink "java/lang/String" (38 : Nat) "java/lang/String" "COMPACT_STRINGS" "Z").before a0 Z = true := hw _ (List.mem_of_getElem? (i := 4) rfl)
theorem wd5 {Z : State} {a0 : Array Value} (hw : ∀ d ∈ tables_1, d.before a0 Z = true) : (Jvm.Cond.methodLink "java/lang/String" (1015 : Nat) ({ cls := "java/lang/StringLatin1", name := "canEncode", desc := "(C)Z" } : Jvm.MethodName)).before a0 Z = true := hw _ (List.mem_of_getElem? (i := 5) rfl)
theorem wd6 {Z : State} {a0 : Array Value} (hw : ∀ d ∈ tables_1, d.before a0 Z = true) : (Jvm.Cond.static ({ cls := "java/lang/StringLatin1", name := "canEncode", desc := "(C)Z" } : Jvm.MethodName)).before a0 Z = true := hw _ (List.mem_of_getElem? (i := 6) rfl)
theorem wd7 {Z : State} {a0 : Array Value} (hw : ∀ d ∈ tables_1, d.before a0 Z = true) : (Jvm.Cond.initialized "java/lang/StringLatin1").before a0 Z = true := hw _ (List.mem_of_getElem? (i := 7) rfl)
theorem wd8 {Z : State} {a0 : Array Value} (hw : ∀ d ∈ tables_1, d.before a0 Z = true) : (Jvm.Cond.code ({ cls := "java/lang/StringLatin1", name := "canEncode", desc := "(C)Z" } : Jvm.MethodName) jdk_43_method_3_code (1 : Nat) (Option.some Jvm.ClassFile.FieldType.boolean)).before a0 Z = true := hw _ (List.mem_of_getElem? (i := 8) rfl)
theorem wd9 {Z : State} {a0 : Array Value} (hw : ∀ d ∈ tables_1, d.before a0 Z = true) : (Jvm.Cond.classLink "java/lang/String" (10 : Nat) "java/lang/String").before a0 Z = true := hw _ (List.mem_of_getElem? (i := 9) rfl)
theorem wd10 {Z : State} {a0 : Array Value} (hw : ∀ d ∈ tables_1, d.before a0 Z = true) : (Jvm.Cond.instantiable "java/lang/String" (4 : Nat)).before a0 Z = true := hw _ (List.mem_of_getElem? (i := 10) rfl)
theorem wd11 {Z : State} {a0 : Array Value} (hw : ∀ d ∈ tables_1, d.before a0 Z = true) : (Jvm.Cond.methodLink "java/lang/String" (1018 : Nat) ({ cls := "java/lang/StringLatin1", name := "toBytes", desc := "(C)[B" } : Jvm.MethodName)).before a0 Z = true := hw _ (List.mem_of_getElem? (i := 11) rfl)
theorem wd12 {Z : State} {a0 : Array Value} (hw : ∀ d ∈ tables_1, d.before a0 Z = true) : (Jvm.Cond.static ({ cls := "java/lang/StringLatin1", name := "toBytes", desc := "(C)[B" } : Jvm.MethodName)).before a0 Z = true := hw _ (List.mem_of_getElem? (i := 12) rfl)
theorem wd13 {Z : State} {a0 : Array Value} (hw : ∀ d ∈ tables_1, d.before a0 Z = true) : (Jvm.Cond.code ({ cls := "java/lang/StringLatin1", name := "toBytes", desc := "(C)[B" } : Jvm.MethodName) jdk_43_method_46_code (1 : Nat) (Option.some (Jvm.ClassFile.FieldType.array Jvm.ClassFile.FieldType.byte))).before a0 Z = true := hw _ (List.mem_of_getElem? (i := 13) rfl)
theorem wd14 {Z : State} {a0 : Array Value} (hw : ∀ d ∈ tables_1, d.before a0 Z = true) : (Jvm.Cond.arrayClass Jvm.ClassFile.FieldType.byte).before a0 Z = true := hw _ (List.mem_of_getElem? (i := 14) rfl)
theorem wd15 {Z : State} {a0 : Array Value} (hw : ∀ d ∈ tables_1, d.before a0 Z = true) : (Jvm.Cond.methodLink "java/lang/String" (209 : Nat) ({ cls := "java/lang/String", name := "<init>", desc := "([BB)V" } : Jvm.MethodName)).before a0 Z = true := hw _ (List.mem_of_getElem? (i := 15) rfl)
theorem wd16 {Z : State} {a0 : Array Value} (hw : ∀ d ∈ tables_1, d.before a0 Z = true) : (Jvm.Cond.instanceMethod ({ cls := "java/lang/String", name := "<init>", desc := "([BB)V" } : Jvm.MethodName)).before a0 Z = true := hw _ (List.mem_of_getElem? (i := 16) rfl)
theorem wd18 {Z : State} {a0 : Array Value} (hw : ∀ d ∈ tables_1, d.before a0 Z = true) : (Jvm.Cond.code ({ cls := "java/lang/String", name := "<init>", desc := "([BB)V" } : Jvm.MethodName) jdk_42_method_151_code (3 : Nat) (Option.none : Option Jvm.ClassFile.FieldType)).before a0 Z = true := hw _ (List.mem_of_getElem? (i := 18) rfl)
theorem wd19 {Z : State} {a0 : Array Value} (hw : ∀ d ∈ tables_1, d.before a0 Z = true) : (Jvm.Cond.methodLink "java/lang/String" (1 : Nat) ({ cls := "java/lang/Object", name := "<init>", desc := "()V" } : Jvm.MethodName)).before a0 Z = true := hw _ (List.mem_of_getElem? (i := 19) rfl)
theorem wd20 {Z : State} {a0 : Array Value} (hw : ∀ d ∈ tables_1, d.before a0 Z = true) : (Jvm.Cond.instanceMethod ({ cls := "java/lang/Object", name := "<init>", desc := "()V" } : Jvm.MethodName)).before a0 Z = true := hw _ (List.mem_of_getElem? (i := 20) rfl)
theorem wd21 {Z : State} {a0 : Array Value} (hw : ∀ d ∈ tables_1, d.before a0 Z = true) : (Jvm.Cond.code ({ cls := "java/lang/Object", name := "<init>", desc := "()V" } : Jvm.MethodName) object_method_1_code (1 : Nat) (Option.none : Option Jvm.ClassFile.FieldType)).before a0 Z = true := hw _ (List.mem_of_getElem? (i := 21) rfl)
theorem wd22 {Z : State} {a0 : Array Value} (hw : ∀ d ∈ tables_1, d.before a0 Z = true) : (Jvm.Cond.fieldLink "java/lang/String" (9 : Nat) "java/lang/String" "value" "[B").before a0 Z = true := hw _ (List.mem_of_getElem? (i := 22) rfl)
theorem wd23 {Z : State} {a0 : Array Value} (hw : ∀ d ∈ tables_1, d.before a0 Z = true) : (Jvm.Cond.laysFinal "java/lang/String" "java/lang/String" "value" "[B").before a0 Z = true := hw _ (List.mem_of_getElem? (i := 23) rfl)
theorem wd24 {Z : State} {a0 : Array Value} (hw : ∀ d ∈ tables_1, d.before a0 Z = true) : (Jvm.Cond.fieldLink "java/lang/String" (15 : Nat) "java/lang/String" "coder" "B").before a0 Z = true := hw _ (List.mem_of_getElem? (i := 24) rfl)
theorem wd25 {Z : State} {a0 : Array Value} (hw : ∀ d ∈ tables_1, d.before a0 Z = true) : (Jvm.Cond.laysFinal "java/lang/String" "java/lang/String" "coder" "B").before a0 Z = true := hw _ (List.mem_of_getElem? (i := 25) rfl)
theorem wd26 {Z : State} {a0 : Array Value} (hw : ∀ d ∈ tables_1, d.before a0 Z = true) : (Jvm.Cond.classLink "com/example/hybrev/hybrev/UserRevocationRevokesPinLaw" (31 : Nat) "com/example/hybrev/hybrev/UserRevocation").before a0 Z = true := hw _ (List.mem_of_getElem? (i := 26) rfl)
theorem wd27 {Z : State} {a0 : Array Value} (hw : ∀ d ∈ tables_1, d.before a0 Z = true) : (Jvm.Cond.instantiable "com/example/hybrev/hybrev/UserRevocation" (4 : Nat)).before a0 Z = true := hw _ (List.mem_of_getElem? (i := 27) rfl)
theorem wd28 {Z : State} {a0 : Array Value} (hw : ∀ d ∈ tables_1, d.before a0 Z = true) : (Jvm.Cond.initialized "com/example/hybrev/hybrev/UserRevocation").before a0 Z = true := hw _ (List.mem_of_getElem? (i := 28) rfl)
theorem wd29 {Z : State} {a0 : Array Value} (hw : ∀ d ∈ tables_1, d.before a0 Z = true) : (Jvm.Cond.methodLink "com/example/hybrev/hybrev/UserRevocationRevokesPinLaw" (33 : Nat) ({ cls := "com/example/hybrev/hybrev/UserRevocationRevokesPinLaw", name := "pick", desc := "(I)Lcom/example/hybrev/hybrev/Reason;" } : Jvm.MethodName)).before a0 Z = true := hw _ (List.mem_of_getElem? (i := 29) rfl)
theorem wd30 {Z : State} {a0 : Array Value} (hw : ∀ d ∈ tables_1, d.before a0 Z = true) : (Jvm.Cond.static ({ cls := "com/example/hybrev/hybrev/UserRevocationRevokesPinLaw", name := "pick", desc := "(I)Lcom/example/hybrev/hybrev/Reason;" } : Jvm.MethodName)).before a0 Z = true := hw _ (List.mem_of_getElem? (i := 30) rfl)
theorem wd31 {Z : State} {a0 : Array Value} (hw : ∀ d ∈ tables_1, d.before a0 Z = true) : (Jvm.Cond.initialized "com/example/hybrev/hybrev/UserRevocationRevokesPinLaw").before a0 Z = true := hw _ (List.mem_of_getElem? (i := 31) rfl)
theorem wd32 {Z : State} {a0 : Array Value} (hw : ∀ d ∈ tables_1, d.before a0 Z = true) : (Jvm.Cond.code ({ cls := "com/example/hybrev/hybrev/UserRevocationRevokesPinLaw", name := "pick", desc := "(I)Lcom/example/hybrev/hybrev/Reason;" } : Jvm.MethodName) method_2_code (2 : Nat) (Option.some (Jvm.ClassFile.FieldType.object "com/example/hybrev/hybrev/Reason"))).before a0 Z = true := hw _ (List.mem_of_getElem? (i := 32) rfl)
theorem wd33 {Z : State} {a0 : Array Value} (hw : ∀ d ∈ tables_1, d.before a0 Z = true) : (Jvm.Cond.fieldLink "com/example/hybrev/hybrev/UserRevocationRevokesPinLaw" (16 : Nat) "com/example/hybrev/hybrev/Reason" "COMPROMISED" "Lcom/example/hybrev/hybrev/Reason;").before a0 Z = true := hw _ (List.mem_of_getElem? (i := 33) rfl)
theorem wd34 {Z : State} {a0 : Array Value} (hw : ∀ d ∈ tables_1, d.before a0 Z = true) : (Jvm.Cond.initialized "com/example/hybrev/hybrev/Reason").before a0 Z = true := hw _ (List.mem_of_getElem? (i := 34) rfl)
theorem wd35 {Z : State} {a0 : Array Value} (hw : ∀ d ∈ tables_1, d.before a0 Z = true) : (Jvm.Cond.laysStatic "com/example/hybrev/hybrev/Reason" "COMPROMISED" "Lcom/example/hybrev/hybrev/Reason;").before a0 Z = true := hw _ (List.mem_of_getElem? (i := 35) rfl)
theorem wd36 {Z : State} {a0 : Array Value} (hw : ∀ d ∈ tables_1, d.before a0 Z = true) : (Jvm.Cond.methodLink "com/example/hybrev/hybrev/UserRevocationRevokesPinLaw" (39 : Nat) ({ cls := "com/example/hybrev/hybrev/UserRevocation", name := "<init>", desc := "(Ljava/lang/String;Lcom/example/hybrev/hybrev/Reason;JLjava/lang/String;)V" } : Jvm.MethodName)).before a0 Z = true := hw _ (List.mem_of_getElem? (i := 36) rfl)
theorem wd37 {Z : State} {a0 : Array Value} (hw : ∀ d ∈ tables_1, d.before a0 Z = true) : (Jvm.Cond.instanceMethod ({ cls := "com/example/hybrev/hybrev/UserRevocation", name := "<init>", desc := "(Ljava/lang/String;Lcom/example/hybrev/hybrev/Reason;JLjava/lang/String;)V" } : Jvm.MethodName)).before a0 Z = true := hw _ (List.mem_of_getElem? (i := 37) rfl)
theorem wd38 {Z : State} {a0 : Array Value} (hw : ∀ d ∈ tables_1, d.before a0 Z = true) : (Jvm.Cond.code ({ cls := "com/example/hybrev/hybrev/UserRevocation", name := "<init>", desc := "(Ljava/lang/String;Lcom/example/hybrev/hybrev/Reason;JLjava/lang/String;)V" } : Jvm.MethodName) prog_25_method_1_code (6 : Nat) (Option.none : Option Jvm.ClassFile.FieldType)).before a0 Z = true := hw _ (List.mem_of_getElem? (i := 38) rfl)
theorem wd39 {Z : State} {a0 : Array Value} (hw : ∀ d ∈ tables_1, d.before a0 Z = true) : (Jvm.Cond.methodLink "com/example/hybrev/hybrev/UserRevocation" (1 : Nat) ({ cls := "java/lang/Object", name := "<init>", desc := "()V" } : Jvm.MethodName)).before a0 Z = true := hw _ (List.mem_of_getElem? (i := 39) rfl)
theorem wd40 {Z : State} {a0 : Array Value} (hw : ∀ d ∈ tables_1, d.before a0 Z = true) : (Jvm.Cond.fieldLink "com/example/hybrev/hybrev/UserRevocation" (7 : Nat) "com/example/hybrev/hybrev/UserRevocation" "userId" "Ljava/lang/String;").before a0 Z = true := hw _ (List.mem_of_getElem? (i := 40) rfl)
theorem wd41 {Z : State} {a0 : Array Value} (hw : ∀ d ∈ tables_1, d.before a0 Z = true) : (Jvm.Cond.laysFinal "com/example/hybrev/hybrev/UserRevocation" "com/example/hybrev/hybrev/UserRevocation" "userId" "Ljava/lang/String;").before a0 Z = true := hw _ (List.mem_of_getElem? (i := 41) rfl)
theorem wd42 {Z : State} {a0 : Array Value} (hw : ∀ d ∈ tables_1, d.before a0 Z = true) : (Jvm.Cond.fieldLink "com/example/hybrev/hybrev/UserRevocation" (13 : Nat) "com/example/hybrev/hybrev/UserRevocation" "reason" "Lcom/example/hybrev/hybrev/Reason;").before a0 Z = true := hw _ (List.mem_of_getElem? (i := 42) rfl)
theorem wd43 {Z : State} {a0 : Array Value} (hw : ∀ d ∈ tables_1, d.before a0 Z = true) : (Jvm.Cond.laysFinal "com/example/hybrev/hybrev/UserRevocation" "com/example/hybrev/hybrev/UserRevocation" "reason" "Lcom/example/hybrev/hybrev/Reason;").before a0 Z = true := hw _ (List.mem_of_getElem? (i := 43) rfl)
theorem wd44 {Z : State} {a0 : Array Value} (hw : ∀ d ∈ tables_1, d.before a0 Z = true) : (Jvm.Cond.fieldLink "com/example/hybrev/hybrev/UserRevocation" (17 : Nat) "com/example/hybrev/hybrev/UserRevocation" "cutoff" "J").before a0 Z = true := hw _ (List.mem_of_getElem? (i := 44) rfl)
theorem wd45 {Z : State} {a0 : Array Value} (hw : ∀ d ∈ tables_1, d.before a0 Z = true) : (Jvm.Cond.laysFinal "com/example/hybrev/hybrev/UserRevocation" "com/example/hybrev/hybrev/UserRevocation" "cutoff" "J").before a0 Z = true := hw _ (List.mem_of_getElem? (i := 45) rfl)
theorem wd46 {Z : State} {a0 : Array Value} (hw : ∀ d ∈ tables_1, d.before a0 Z = true) : (Jvm.Cond.fieldLink "com/example/hybrev/hybrev/UserRevocation" (21 : Nat) "com/example/hybrev/hybrev/UserRevocation" "revokedBy" "Ljava/lang/String;").before a0 Z = true := hw _ (List.mem_of_getElem? (i := 46) rfl)
theorem wd47 {Z : State} {a0 : Array Value} (hw : ∀ d ∈ tables_1, d.before a0 Z = true) : (Jvm.Cond.laysFinal "com/example/hybrev/hybrev/UserRevocation" "com/example/hybrev/hybrev/UserRevocation" "revokedBy" "Ljava/lang/String;").before a0 Z = true := hw _ (List.mem_of_getElem? (i := 47) rfl)
theorem wd48 {Z : State} {a0 : Array Value} (hw : ∀ d ∈ tables_1, d.before a0 Z = true) : (Jvm.Cond.methodLink "com/example/hybrev/hybrev/UserRevocationRevokesPinLaw" (42 : Nat) ({ cls := "com/example/hybrev/hybrev/UserRevocation", name := "revokes", desc := "(J)Z" } : Jvm.MethodName)).before a0 Z = true := hw _ (List.mem_of_getElem? (i := 48) rfl)
theorem wd49 {Z : State} {a0 : Array Value} (hw : ∀ d ∈ tables_1, d.before a0 Z = true) : (Jvm.Cond.declares ({ cls := "com/example/hybrev/hybrev/UserRevocation", name := "revokes", desc := "(J)Z" } : Jvm.MethodName)).before a0 Z = true := hw _ (List.mem_of_getElem? (i := 49) rfl)
theorem wd50 {Z : State} {a0 : Array Value} (hw : ∀ d ∈ tables_1, d.before a0 Z = true) : (Jvm.Cond.instanceMethod ({ cls := "com/example/hybrev/hybrev/UserRevocation", name := "revokes", desc := "(J)Z" } : Jvm.MethodName)).before a0 Z = true := hw _ (List.mem_of_getElem? (i := 50) rfl)
theorem wd51 {Z : State} {a0 : Array Value} (hw : ∀ d ∈ tables_1, d.before a0 Z = true) : (Jvm.Cond.selects "com/example/hybrev/hybrev/UserRevocation" ({ cls := "com/example/hybrev/hybrev/UserRevocation", name := "revokes", desc := "(J)Z" } : Jvm.MethodName) ({ cls := "com/example/hybrev/hybrev/UserRevocation", name := "revokes", desc := "(J)Z" } : Jvm.MethodName)).before a0 Z = true := hw _ (List.mem_of_getElem? (i := 51) rfl)
theorem wd52 {Z : State} {a0 : Array Value} (hw : ∀ d ∈ tables_1, d.before a0 Z = true) : (Jvm.Cond.code ({ cls := "com/example/hybrev/hybrev/UserRevocation", name := "revokes", desc := "(J)Z" } : Jvm.MethodName) prog_25_method_2_code (3 : Nat) (Option.some Jvm.ClassFile.FieldType.boolean)).before a0 Z = true := hw _ (List.mem_of_getElem? (i := 52) rfl)
theorem wd53 {Z : State} {a0 : Array Value} (hw : ∀ d ∈ tables_1, d.before a0 Z = true) : (Jvm.Cond.constantLong "com/example/hybrev/hybrev/UserRevocationRevokesPinLaw" (48 : Nat) (9223372036854775807 : Int64)).before a0 Z = true := hw _ (List.mem_of_getElem? (i := 53) rfl)
theorem wd54 {Z : State} {a0 : Array Value} (hw : ∀ d ∈ tables_1, d.before a0 Z = true) : (Jvm.Cond.methodLink "com/example/hybrev/hybrev/UserRevocationRevokesPinLaw" (50 : Nat) ({ cls := "java/lang/Math", name := "min", desc := "(JJ)J" } : Jvm.MethodName)).before a0 Z = true := hw _ (List.mem_of_getElem? (i := 54) rfl)
theorem wd55 {Z : State} {a0 : Array Value} (hw : ∀ d ∈ tables_1, d.before a0 Z = true) : (Jvm.Cond.static ({ cls := "java/lang/Math", name := "min", desc := "(JJ)J" } : Jvm.MethodName)).before a0 Z = true := hw _ (List.mem_of_getElem? (i := 55) rfl)
theorem wd56 {Z : State} {a0 : Array Value} (hw : ∀ d ∈ tables_1, d.before a0 Z = true) : (Jvm.Cond.initialized "java/lang/Math").before a0 Z = true := hw _ (List.mem_of_getElem? (i := 56) rfl)
theorem wd57 {Z : State} {a0 : Array Value} (hw : ∀ d ∈ tables_1, d.before a0 Z = true) : (Jvm.Cond.code ({ cls := "java/lang/Math", name := "min", desc := "(JJ)J" } : Jvm.MethodName) jdk_29_method_70_code (4 : Nat) (Option.some Jvm.ClassFile.FieldType.long)).before a0 Z = true := hw _ (List.mem_of_getElem? (i := 57) rfl)
theorem wd58 {Z : State} {a0 : Array Value} (hw : ∀ d ∈ tables_1, d.before a0 Z = true) : (Jvm.Cond.methodLink "com/example/hybrev/hybrev/UserRevocationRevokesPinLaw" (56 : Nat) ({ cls := "java/lang/Math", name := "max", desc := "(JJ)J" } : Jvm.MethodName)).before a0 Z = true := hw _ (List.mem_of_getElem? (i := 58) rfl)
theorem wd59 {Z : State} {a0 : Array Value} (hw : ∀ d ∈ tables_1, d.before a0 Z = true) : (Jvm.Cond.static ({ cls := "java/lang/Math", name := "max", desc := "(JJ)J" } : Jvm.MethodName)).before a0 Z = true := hw _ (List.mem_of_getElem? (i := 59) rfl)
theorem wd60 {Z : State} {a0 : Array Value} (hw : ∀ d ∈ tables_1, d.before a0 Z = true) : (Jvm.Cond.code ({ cls := "java/lang/Math", name := "max", desc := "(JJ)J" } : Jvm.MethodName) jdk_29_method_66_code (4 : Nat) (Option.some Jvm.ClassFile.FieldType.long)).before a0 Z = true := hw _ (List.mem_of_getElem? (i := 60) rfl)
theorem wd61 {Z : State} {a0 : Array Value} (hw : ∀ d ∈ tables_1, d.before a0 Z = true) : (Jvm.Cond.fieldLink "com/example/hybrev/hybrev/UserRevocationRevokesPinLaw" (13 : Nat) "com/example/hybrev/hybrev/Reason" "PASSWORD_CHANGE" "Lcom/example/hybrev/hybrev/Reason;").before a0 Z = true := hw _ (List.mem_of_getElem? (i := 61) rfl)
theorem wd62 {Z : State} {a0 : Array Value} (hw : ∀ d ∈ tables_1, d.before a0 Z = true) : (Jvm.Cond.laysStatic "com/example/hybrev/hybrev/Reason" "PASSWORD_CHANGE" "Lcom/example/hybrev/hybrev/Reason;").before a0 Z = true := hw _ (List.mem_of_getElem? (i := 62) rfl)
theorem wd63 {Z : State} {a0 : Array Value} (hw : ∀ d ∈ tables_1, d.before a0 Z = true) : (Jvm.Cond.fieldLink "com/example/hybrev/hybrev/UserRevocationRevokesPinLaw" (7 : Nat) "com/example/hybrev/hybrev/Reason" "LOGOUT" "Lcom/example/hybrev/hybrev/Reason;").before a0 Z = true := hw _ (List.mem_of_getElem? (i := 63) rfl)
theorem wd64 {Z : State} {a0 : Array Value} (hw : ∀ d ∈ tables_1, d.before a0 Z = true) : (Jvm.Cond.laysStatic "com/example/hybrev/hybrev/Reason" "LOGOUT" "Lcom/example/hybrev/hybrev/Reason;").before a0 Z = true := hw _ (List.mem_of_getElem? (i := 64) rfl)
theorem wd65 {Z : State} {a0 : Array Value} (hw : ∀ d ∈ tables_1, d.before a0 Z = true) : (Jvm.Cond.fieldLink "com/example/hybrev/hybrev/UserRevocationRevokesPinLaw" (19 : Nat) "com/example/hybrev/hybrev/Reason" "ADMIN_REVOKE" "Lcom/example/hybrev/hybrev/Reason;").before a0 Z = true := hw _ (List.mem_of_getElem? (i := 65) rfl)
theorem wd66 {Z : State} {a0 : Array Value} (hw : ∀ d ∈ tables_1, d.before a0 Z = true) : (Jvm.Cond.laysStatic "com/example/hybrev/hybrev/Reason" "ADMIN_REVOKE" "Lcom/example/hybrev/hybrev/Reason;").before a0 Z = true := hw _ (List.mem_of_getElem? (i := 66) rfl)
theorem wd67 {Z : State} {a0 : Array Value} (hw : ∀ d ∈ tables_1, d.before a0 Z = true) : (Jvm.Cond.fieldLink "com/example/hybrev/hybrev/UserRevocationRevokesPinLaw" (22 : Nat) "com/example/hybrev/hybrev/Reason" "UNKNOWN" "Lcom/example/hybrev/hybrev/Reason;").before a0 Z = true := hw _ (List.mem_of_getElem? (i := 67) rfl)
theorem wd68 {Z : State} {a0 : Array Value} (hw : ∀ d ∈ tables_1, d.before a0 Z = true) : (Jvm.Cond.laysStatic "com/example/hybrev/hybrev/Reason" "UNKNOWN" "Lcom/example/hybrev/hybrev/Reason;").before a0 Z = true := hw _ (List.mem_of_getElem? (i := 68) rfl)
theorem d1_0 : decode jdk_42_method_139_code 0 = .ok (.getstatic 38, 3) := by decide +kernel
theorem d1_3 : decode jdk_42_method_139_code 3 = .ok (.ifCond .eq 23, 3) := by decide +kernel
theorem d1_6 : decode jdk_42_method_139_code 6 = .ok (.iload_n 0, 1) := by decide +kernel
theorem d1_7 : decode jdk_42_method_139_code 7 = .ok (.invokestatic 1015, 3) := by decide +kernel
theorem d1_10 : decode jdk_42_method_139_code 10 = .ok (.ifCond .eq 16, 3) := by decide +kernel
theorem d1_13 : decode jdk_42_method_139_code 13 = .ok (.new 10, 3) := by decide +kernel
theorem d1_16 : decode jdk_42_method_139_code 16 = .ok (.dup, 1) := by decide +kernel
theorem d1_17 : decode jdk_42_method_139_code 17 = .ok (.iload_n 0, 1) := by decide +kernel
theorem d1_18 : decode jdk_42_method_139_code 18 = .ok (.invokestatic 1018, 3) := by decide +kernel
theorem d1_21 : decode jdk_42_method_139_code 21 = .ok (.iconst 0, 1) := by decide +kernel
theorem d1_22 : decode jdk_42_method_139_code 22 = .ok (.invokespecial 209, 3) := by decide +kernel
theorem d1_25 : decode jdk_42_method_139_code 25 = .ok (.areturn, 1) := by decide +kernel
theorem d2_0 : decode jdk_43_method_3_code 0 = .ok (.iload_n 0, 1) := by decide +kernel
theorem d2_1 : decode jdk_43_method_3_code 1 = .ok (.sipush 255, 3) := by decide +kernel
theorem d2_4 : decode jdk_43_method_3_code 4 = .ok (.if_icmp .gt 7, 3) := by decide +kernel
theorem d2_7 : decode jdk_43_method_3_code 7 = .ok (.iconst 1, 1) := by decide +kernel
theorem d2_8 : decode jdk_43_method_3_code 8 = .ok (.goto 4, 3) := by decide +kernel
theorem d2_12 : decode jdk_43_method_3_code 12 = .ok (.ireturn, 1) := by decide +kernel
theorem d3_0 : decode jdk_43_method_46_code 0 = .ok (.iconst 1, 1) := by decide +kernel
theorem d3_1 : decode jdk_43_method_46_code 1 = .ok (.newarray .byte, 2) := by decide +kernel
theorem d3_3 : decode jdk_43_method_46_code 3 = .ok (.dup, 1) := by decide +kernel
theorem d3_4 : decode jdk_43_method_46_code 4 = .ok (.iconst 0, 1) := by decide +kernel
theorem d3_5 : decode jdk_43_method_46_code 5 = .ok (.iload_n 0, 1) := by decide +kernel
theorem d3_6 : decode jdk_43_method_46_code 6 = .ok (.i2b, 1) := by decide +kernel
theorem d3_7 : decode jdk_43_method_46_code 7 = .ok (.bastore, 1) := by decide +kernel
theorem d3_8 : decode jdk_43_method_46_code 8 = .ok (.areturn, 1) := by decide +kernel
theorem d4_0 : decode jdk_42_method_151_code 0 = .ok (.aload_n 0, 1) := by decide +kernel
theorem d4_1 : decode jdk_42_method_151_code 1 = .ok (.invokespecial 1, 3) := by decide +kernel
theorem d4_4 : decode jdk_42_method_151_code 4 = .ok (.aload_n 0, 1) := by decide +kernel
theorem d4_5 : decode jdk_42_method_151_code 5 = .ok (.aload_n 1, 1) := by decide +kernel
theorem d4_6 : decode jdk_42_method_151_code 6 = .ok (.putfield 9, 3) := by decide +kernel
theorem d4_9 : decode jdk_42_method_151_code 9 = .ok (.aload_n 0, 1) := by decide +kernel
theorem d4_10 : decode jdk_42_method_151_code 10 = .ok (.iload_n 2, 1) := by decide +kernel
theorem d4_11 : decode jdk_42_method_151_code 11 = .ok (.putfield 15, 3) := by decide +kernel
theorem d4_14 : decode jdk_42_method_151_code 14 = .ok (.return_, 1) := by decide +kernel
theorem d6_0 : decode method_2_code 0 = .ok (.iload_n 0, 1) := by decide +kernel
theorem d6_1 : decode method_2_code 1 = .ok (.bipush 7, 2) := by decide +kernel
theorem d6_3 : decode method_2_code 3 = .ok (.iand, 1) := by decide +kernel
theorem d6_4 : decode method_2_code 4 = .ok (.istore_n 1, 1) := by decide +kernel
theorem d6_5 : decode method_2_code 5 = .ok (.iload_n 1, 1) := by decide +kernel
theorem d6_6 : decode method_2_code 6 = .ok (.ifCond .ne 7, 3) := by decide +kernel
theorem d6_9 : decode method_2_code 9 = .ok (.getstatic 7, 3) := by decide +kernel
theorem d6_12 : decode method_2_code 12 = .ok (.areturn, 1) := by decide +kernel
theorem d6_13 : decode method_2_code 13 = .ok (.iload_n 1, 1) := by decide +kernel
theorem d6_14 : decode method_2_code 14 = .ok (.iconst 1, 1) := by decide +kernel
theorem d6_15 : decode method_2_code 15 = .ok (.if_icmp .ne 7, 3) := by decide +kernel
theorem d6_18 : decode method_2_code 18 = .ok (.getstatic 13, 3) := by decide +kernel
theorem d6_21 : decode method_2_code 21 = .ok (.areturn, 1) := by decide +kernel
theorem d6_22 : decode method_2_code 22 = .ok (.iload_n 1, 1) := by decide +kernel
theorem d6_23 : decode method_2_code 23 = .ok (.iconst 2, 1) := by decide +kernel
theorem d6_24 : decode method_2_code 24 = .ok (.if_icmp .ne 7, 3) := by decide +kernel
theorem d6_27 : decode method_2_code 27 = .ok (.getstatic 16, 3) := by decide +kernel
theorem d6_30 : decode method_2_code 30 = .ok (.areturn, 1) := by decide +kernel
theorem d6_31 : decode method_2_code 31 = .ok (.iload_n 1, 1) := by decide +kernel
theorem d6_32 : decode method_2_code 32 = .ok (.iconst 3, 1) := by decide +kernel
theorem d6_33 : decode method_2_code 33 = .ok (.if_icmp .ne 7, 3) := by decide +kernel
theorem d6_36 : decode method_2_code 36 = .ok (.getstatic 19, 3) := by decide +kernel
theorem d6_39 : decode method_2_code 39 = .ok (.areturn, 1) := by decide +kernel
theorem d6_40 : decode method_2_code 40 = .ok (.iload_n 1, 1) := by decide +kernel
theorem d6_41 : decode method_2_code 41 = .ok (.iconst 4, 1) := by decide +kernel
theorem d6_42 : decode method_2_code 42 = .ok (.if_icmp .ne 7, 3) := by decide +kernel
theorem d6_45 : decode method_2_code 45 = .ok (.getstatic 22, 3) := by decide +kernel
theorem d6_48 : decode method_2_code 48 = .ok (.areturn, 1) := by decide +kernel
theorem d6_49 : decode method_2_code 49 = .ok (.aconst_null, 1) := by decide +kernel
theorem d6_50 : decode method_2_code 50 = .ok (.areturn, 1) := by decide +kernel
theorem d7_0 : decode prog_25_method_1_code 0 = .ok (.aload_n 0, 1) := by decide +kernel
theorem d7_1 : decode prog_25_method_1_code 1 = .ok (.invokespecial 1, 3) := by decide +kernel
theorem d7_4 : decode prog_25_method_1_code 4 = .ok (.aload_n 0, 1) := by decide +kernel
theorem d7_5 : decode prog_25_method_1_code 5 = .ok (.aload_n 1, 1) := by decide +kernel
theorem d7_6 : decode prog_25_method_1_code 6 = .ok (.putfield 7, 3) := by decide +kernel
theorem d7_9 : decode prog_25_method_1_code 9 = .ok (.aload_n 0, 1) := by decide +kernel
theorem d7_10 : decode prog_25_method_1_code 10 = .ok (.aload_n 2, 1) := by decide +kernel
theorem d7_11 : decode prog_25_method_1_code 11 = .ok (.putfield 13, 3) := by decide +kernel
theorem d7_14 : decode prog_25_method_1_code 14 = .ok (.aload_n 0, 1) := by decide +kernel
theorem d7_15 : decode prog_25_method_1_code 15 = .ok (.lload_n 3, 1) := by decide +kernel
theorem d7_16 : decode prog_25_method_1_code 16 = .ok (.putfield 17, 3) := by decide +kernel
theorem d7_19 : decode prog_25_method_1_code 19 = .ok (.aload_n 0, 1) := by decide +kernel
theorem d7_20 : decode prog_25_method_1_code 20 = .ok (.aload 5, 2) := by decide +kernel
theorem d7_22 : decode prog_25_method_1_code 22 = .ok (.putfield 21, 3) := by decide +kernel
theorem d7_25 : decode prog_25_method_1_code 25 = .ok (.return_, 1) := by decide +kernel
theorem d8_0 : decode prog_25_method_2_code 0 = .ok (.lload_n 1, 1) := by decide +kernel
theorem d8_1 : decode prog_25_method_2_code 1 = .ok (.aload_n 0, 1) := by decide +kernel
theorem d8_2 : decode prog_25_method_2_code 2 = .ok (.getfield 17, 3) := by decide +kernel
theorem d8_5 : decode prog_25_method_2_code 5 = .ok (.lcmp, 1) := by decide +kernel
theorem d8_6 : decode prog_25_method_2_code 6 = .ok (.ifCond .gt 7, 3) := by decide +kernel
theorem d8_9 : decode prog_25_method_2_code 9 = .ok (.iconst 1, 1) := by decide +kernel
theorem d8_10 : decode prog_25_method_2_code 10 = .ok (.goto 4, 3) := by decide +kernel
theorem d8_13 : decode prog_25_method_2_code 13 = .ok (.iconst 0, 1) := by decide +kernel
theorem d8_14 : decode prog_25_method_2_code 14 = .ok (.ireturn, 1) := by decide +kernel
theorem d9_0 : decode jdk_29_method_70_code 0 = .ok (.lload_n 0, 1) := by decide +kernel
theorem d9_1 : decode jdk_29_method_70_code 1 = .ok (.lload_n 2, 1) := by decide +kernel
theorem d9_2 : decode jdk_29_method_70_code 2 = .ok (.lcmp, 1) := by decide +kernel
theorem d9_3 : decode jdk_29_method_70_code 3 = .ok (.ifCond .gt 7, 3) := by decide +kernel
theorem d9_6 : decode jdk_29_method_70_code 6 = .ok (.lload_n 0, 1) := by decide +kernel
theorem d9_7 : decode jdk_29_method_70_code 7 = .ok (.goto 4, 3) := by decide +kernel
theorem d9_10 : decode jdk_29_method_70_code 10 = .ok (.lload_n 2, 1) := by decide +kernel
theorem d9_11 : decode jdk_29_method_70_code 11 = .ok (.lreturn, 1) := by decide +kernel
theorem d10_0 : decode jdk_29_method_66_code 0 = .ok (.lload_n 0, 1) := by decide +kernel
theorem d10_1 : decode jdk_29_method_66_code 1 = .ok (.lload_n 2, 1) := by decide +kernel
theorem d10_2 : decode jdk_29_method_66_code 2 = .ok (.lcmp, 1) := by decide +kernel
theorem d10_3 : decode jdk_29_method_66_code 3 = .ok (.ifCond .lt 7, 3) := by decide +kernel
theorem d10_6 : decode jdk_29_method_66_code 6 = .ok (.lload_n 0, 1) := by decide +kernel
theorem d10_7 : decode jdk_29_method_66_code 7 = .ok (.goto 4, 3) := by decide +kernel
theorem d10_10 : decode jdk_29_method_66_code 10 = .ok (.lload_n 2, 1) := by decide +kernel
theorem d10_11 : decode jdk_29_method_66_code 11 = .ok (.lreturn, 1) := by decide +kernel
theorem pd0 : parseMethodDescriptor "(C)Z" = some ⟨[.char], some .boolean⟩ := by decide +kernel
theorem pd1 : parseMethodDescriptor "(C)[B" = some ⟨[.char], some (.array .byte)⟩ := by decide +kernel
theorem pd2 : parseMethodDescriptor "([BB)V" = some ⟨[(.array .byte), .byte], none⟩ := by decide +kernel
theorem pd3 : parseMethodDescriptor "(C)Ljava/lang/String;" = some ⟨[.char], some (.object "java/lang/String")⟩ := by decide +kernel
theorem pd4 : parseMethodDescriptor "(I)Lcom/example/hybrev/hybrev/Reason;" = some ⟨[.int], some (.object "com/example/hybrev/hybrev/Reason")⟩ := by decide +kernel
theorem pd5 : parseMethodDescriptor "(Ljava/lang/String;Lcom/example/hybrev/hybrev/Reason;JLjava/lang/String;)V" = some ⟨[(.object "java/lang/String"), (.object "com/example/hybrev/hybrev/Reason"), .long, (.object "java/lang/String")], none⟩ := by decide +kernel
theorem pd6 : parseMethodDescriptor "(J)Z" = some ⟨[.long], some .boolean⟩ := by decide +kernel
theorem pd7 : parseMethodDescriptor "(JJ)J" = some ⟨[.long, .long], some .long⟩ := by decide +kernel
theorem pn0 : plainName x.cls = true := by first | (simp [x, plainName, overriddenIn]; done) | decide +kernel
theorem pn1 : plainName "java/lang/StringLatin1" = true := by first | (simp [plainName, overriddenIn]; done) | decide +kernel
theorem pn2 : plainName "java/lang/String" = true := by first | (simp [plainName, overriddenIn]; done) | decide +kernel
theorem pn3 : plainName "com/example/hybrev/hybrev/UserRevocationRevokesPinLaw" = true := by first | (simp [plainName, overriddenIn]; done) | decide +kernel
theorem pn4 : plainName "com/example/hybrev/hybrev/UserRevocation" = true := by first | (simp [plainName, overriddenIn]; done) | decide +kernel

def Q2 (Z : State) (p1 : Int32) (h0 : Heap) (n0 : Nat) (v : Option Value) (h : Heap) (L : List Loc) : Prop := v = some (.int (1 : Int32)) ∧ Fr n0 L ∧ h = h0
set_option maxRecDepth 65536 in
set_option maxHeartbeats 40000000 in
theorem rm2 (l : Launch) (Z : State) (a0 : Array Value) (hw : ∀ d ∈ tables_1, d.before a0 Z = true) (p1 : Int32) (h0 : Heap) (n0 : Nat) (O0 : Old Z n0 h0) (hp1 : ¬ ((255 : Int32) < p1)) :
    Met l Z (⟨"java/lang/StringLatin1", "canEncode", "(C)Z"⟩ : MethodName) jdk_43_method_3_code 1 (some .boolean) ({ frames := 0, cells := 0, slots := 0, locals := 0 } : Room) [] #[(.int p1)] h0 (Q2 Z p1 h0 n0) := by
  refine met_of (L0 := #[.val (.int p1)]) (plainFor_of_name pn1) (fun m => by first | (simp [entryFrame, mkF, argsToLocals, Value.category]; done) | rfl) ?_
  intro p e s m below meth c T0 hx hby hml hown hnm hret hlk hZ X0 e0
  have N0 := Fr.nil n0
  refine o_iloadN X0 hx (hb hby d2_0) rfl rfl ?_
  refine o_sipush X0 hx (hb hby d2_1) (v := (255 : Int32)) rfl rfl ?_
  refine o_icmpNo X0 hx (hb hby d2_4) (flt hp1).2.2.1 rfl ?_
  refine o_iconst X0 hx (hb hby d2_7) (v := (1 : Int32)) rfl rfl ?_
  refine o_goto X0 hx (hb hby d2_8) (by decide) (pc' := 12) (by decide) ?_
  exact o_ret X0 hx hlk (t := .boolean) hret rfl (Or.inl ⟨rfl, by decide, _, rfl⟩) (hb hby d2_12) (by decide) (by decide) e0 ⟨rfl, N0, rfl⟩
def Q3 (Z : State) (p1 : Int32) (h0 : Heap) (n0 : Nat) (v : Option Value) (h : Heap) (L : List Loc) : Prop := ∃ t : Addr, ∃ k : ClassId, v = some (.ref t) ∧ Fr n0 L ∧ Keep h0 h [] ∧ (h0.size ≤ t) ∧ Arv Z h t k .byte (1 : Int32) [(.int (nar .byte (p1.toInt8.toInt32)))] (.int (0 : Int32))
set_option maxRecDepth 65536 in
set_option maxHeartbeats 40000000 in
theorem rm3 (l : Launch) (Z : State) (a0 : Array Value) (hw : ∀ d ∈ tables_1, d.before a0 Z = true) (p1 : Int32) (h0 : Heap) (n0 : Nat) (O0 : Old Z n0 h0) :
    Met l Z (⟨"java/lang/StringLatin1", "toBytes", "(C)[B"⟩ : MethodName) jdk_43_method_46_code 1 (some (.array .byte)) ({ frames := 0, cells := 1, slots := 1, locals := 0 } : Room) [] #[(.int p1)] h0 (Q3 Z p1 h0 n0) := by
  refine met_of (L0 := #[.val (.int p1)]) (plainFor_of_name pn1) (fun m => by first | (simp [entryFrame, mkF, argsToLocals, Value.category]; done) | rfl) ?_
  intro p e s m below meth c T0 hx hby hml hown hnm hret hlk hZ X0 e0
  have N0 := Fr.nil n0
  have KK0 : Keep h0 h0 [] := Keep.refl _ _
  refine o_iconst X0 hx (hb hby d3_0) (v := (1 : Int32)) rfl rfl ?_
  refine o_newP (aty := .byte) X0 hx hZ (wd14 hw) e0 (hb hby d3_1) (by decide) (cap := 1) (by decide) (by decide) (by decide) (by decide) (cells' := 1) (slots' := 1) rfl rfl rfl fun T1 h1 k1 b1 g1 X1 e1 E1 A1 => ?_
  have s_b1_h0 : h0.size ≤ b1 := Nat.le_trans KK0.1 (Nat.le_of_eq g1.symm)
  have n_b1 : n0 ≤ b1 := Nat.le_trans (O0.1 ▸ O0.2.1) (Nat.le_of_eq g1.symm)
  have KE1_h0 : Keep h0 h1 [] := KK0.ext E1
  have OE1 : Old Z n0 h1 := O0.ext E1
  have A_b1 : Arv Z h1 b1 k1 .byte (1 : Int32) [(.int (0 : Int32))] (.int (0 : Int32)) := (Arv.new A1 (by decide)).pad (pad_rep [] (.int (0 : Int32)) 1)
  refine o_dup X1 hx (hb hby d3_3) rfl rfl ?_
  refine o_iconst X1 hx (hb hby d3_4) (v := (0 : Int32)) rfl rfl ?_
  refine o_iloadN X1 hx (hb hby d3_5) rfl rfl ?_
  refine o_i2b X1 hx (hb hby d3_6) rfl ?_
  refine o_stB X1 hx hZ e1 A_b1 (i := 0) ⟨by decide, by decide⟩ (by decide) (Nat.le_of_ble_eq_true rfl) (hb hby d3_7) rfl fun T7 h7 X7 e7 W7 (A7 : Arv Z h7 b1 k1 .byte (1 : Int32) [(.int (nar .byte (p1.toInt8.toInt32)))] (.int (0 : Int32))) => ?_
  have N7 := Fr.snoc X7 N0 n_b1
  have KW7_h0 : Keep h0 h7 [] := KE1_h0.wr W7 (Or.inr s_b1_h0)
  have OW7 : Old Z n0 h7 := OE1.wr W7 n_b1
  exact o_ret X7 hx hlk (t := (.array .byte)) hret rfl (Or.inr (Or.inr (Or.inr (Or.inr ⟨rfl, rfl, rfl⟩)))) (hb hby d3_8) (by decide) (by decide) e7 ⟨b1, k1, rfl, N7, KW7_h0, s_b1_h0, A7⟩
def Q4 (Z : State) (a1 : Addr) (t1 : Addr) (h0 : Heap) (n0 : Nat) (v : Option Value) (h : Heap) (L : List Loc) : Prop := v = none ∧ Fr n0 L ∧ Keep h0 h [a1] ∧ Exa Z h a1 "java/lang/String" ∧ Fld Z h a1 "java/lang/String" "value" "[B" (.ref t1) ∧ Fld Z h a1 "java/lang/String" "coder" "B" (.int (0 : Int32))
set_option maxRecDepth 65536 in
set_option maxHeartbeats 40000000 in
theorem rm4 (l : Launch) (Z : State) (a0 : Array Value) (hw : ∀ d ∈ tables_1, d.before a0 Z = true) (a1 : Addr) (t1 : Addr) (h0 : Heap) (n0 : Nat) (O0 : Old Z n0 h0) (E_a1 : Exa Z h0 a1 "java/lang/String") (F_a1_value : Fld Z h0 a1 "java/lang/String" "value" "[B" .null) (F_a1_coder : Fld Z h0 a1 "java/lang/String" "coder" "B" (.int (0 : Int32))) (na1 : n0 ≤ a1) :
    Met l Z (⟨"java/lang/String", "<init>", "([BB)V"⟩ : MethodName) jdk_42_method_151_code 3 none ({ frames := 1, cells := 0, slots := 0, locals := 12 } : Room) [] #[(.ref a1), (.ref t1), (.int (0 : Int32))] h0 (Q4 Z a1 t1 h0 n0) := by
  refine met_of (L0 := #[.val (.ref a1), .val (.ref t1), .val (.int (0 : Int32))]) (plainFor_of_name pn2) (fun m => by first | (simp [entryFrame, mkF, argsToLocals, Value.category]; done) | rfl) ?_
  intro p e s m below meth c T0 hx hby hml hown hnm hret hlk hZ X0 e0
  have N0 := Fr.nil n0
  have KK0 : Keep h0 h0 [a1] := Keep.refl _ _
  refine o_aloadN X0 hx (hb hby d4_0) rfl rfl rfl ?_
  refine o_initO X0 hx hZ hown (wd19 hw) (wd20 hw) (wd21 hw) e0 (by rw [hml]; rfl) (hb hby d4_1) (by decide) (W := 0) rfl (by decide) rfl fun T1 X1 e1 => ?_
  refine o_aloadN X1 hx (hb hby d4_4) rfl rfl rfl ?_
  refine o_aloadN X1 hx (hb hby d4_5) rfl rfl rfl ?_
  refine o_putF X1 hx hZ hown (host := "") (Or.inl (wd22 hw)) Via.refl e1 F_a1_value E_a1 (Or.inr ⟨(wd23 hw), rfl, hnm⟩) (wd10 hw) (ty := (.array .byte)) (by decide) rfl rfl (hb hby d4_6) rfl fun T6 h6 X6 e6 W6 => ?_
  have F6 : Fld Z h6 a1 "java/lang/String" "value" "[B" (.ref t1) := F_a1_value.same W6
  have N6 := Fr.snoc X6 N0 na1
  have KW6_h0 : Keep h0 h6 [a1] := KK0.wr W6 (Or.inl (List.mem_of_getElem? (i := 0) rfl))
  have OW6 : Old Z n0 h6 := O0.wr W6 na1
  refine o_aloadN X6 hx (hb hby d4_9) rfl rfl rfl ?_
  refine o_iloadN X6 hx (hb hby d4_10) rfl rfl ?_
  have fF11 : Fld Z h6 a1 "java/lang/String" "coder" "B" (.int (0 : Int32)) := (F_a1_coder.other W6 (Or.inr (slot_ne (Z := Z) (a0 := a0) (Or.inr (wd25 hw)) (Or.inr (wd23 hw)) (by decide) (t := .byte) (t' := (.array .byte)) (by decide) (by decide))))
  have fE11 : Exa Z h6 a1 "java/lang/String" := (E_a1.wr W6)
  refine o_putF X6 hx hZ hown (host := "") (Or.inl (wd24 hw)) Via.refl e6 fF11 fE11 (Or.inr ⟨(wd25 hw), rfl, hnm⟩) (wd10 hw) (ty := .byte) (by decide) rfl rfl (hb hby d4_11) rfl fun T11 h11 X11 e11 W11 => ?_
  have F11 : Fld Z h11 a1 "java/lang/String" "coder" "B" (.int (0 : Int32)) := fF11.same W11
  have N11 := Fr.snoc X11 N6 na1
  have KW11_h0 : Keep h0 h11 [a1] := KW6_h0.wr W11 (Or.inl (List.mem_of_getElem? (i := 0) rfl))
  have OW11 : Old Z n0 h11 := OW6.wr W11 na1
  have fE14 : Exa Z h11 a1 "java/lang/String" := (fE11.wr W11)
  have fF14 : Fld Z h11 a1 "java/lang/String" "value" "[B" (.ref t1) := (F6.other W11 (Or.inr (slot_ne (Z := Z) (a0 := a0) (Or.inr (wd23 hw)) (Or.inr (wd25 hw)) (by decide) (t := (.array .byte)) (t' := .byte) (by decide) (by decide))))
  exact o_retV X11 hx hlk hret (hb hby d4_14) (by decide) (by decide) e11 ⟨rfl, N11, KW11_h0, fE14, fF14, F11⟩
def Q1 (Z : State) (p1 : Int32) (cs : Int32) (h0 : Heap) (n0 : Nat) (v : Option Value) (h : Heap) (L : List Loc) : Prop := ∃ b : Addr, ∃ t : Addr, ∃ k : ClassId, v = some (.ref b) ∧ Fr n0 L ∧ Keep h0 h [] ∧ (h0.size ≤ b) ∧ (h0.size ≤ t) ∧ Exa Z h b "java/lang/String" ∧ Fld Z h b "java/lang/String" "value" "[B" (.ref t) ∧ Fld Z h b "java/lang/String" "coder" "B" (.int (0 : Int32)) ∧ Arv Z h t k .byte (1 : Int32) [(.int (nar .byte (p1.toInt8.toInt32)))] (.int (0 : Int32))
set_option maxRecDepth 65536 in
set_option maxHeartbeats 40000000 in
theorem rm1 (l : Launch) (Z : State) (a0 : Array Value) (hw : ∀ d ∈ tables_1, d.before a0 Z = true) (p1 : Int32) (cs : Int32) (h0 : Heap) (n0 : Nat) (O0 : Old Z n0 h0) (S_COMPACT_STRINGS : Sta Z Z.heap "java/lang/String" "COMPACT_STRINGS" "Z" (.int cs)) (hcs : ¬ (cs = (0 : Int32))) (hp1 : ¬ ((255 : Int32) < p1)) :
    Met l Z (⟨"java/lang/String", "valueOf", "(C)Ljava/lang/String;"⟩ : MethodName) jdk_42_method_139_code 1 (some (.object "java/lang/String")) ({ frames := 2, cells := 2, slots := 5, locals := 27 } : Room) [] #[(.int p1)] h0 (Q1 Z p1 cs h0 n0) := by
  refine met_of (L0 := #[.val (.int p1)]) (plainFor_of_name pn2) (fun m => by first | (simp [entryFrame, mkF, argsToLocals, Value.category]; done) | rfl) ?_
  intro p e s m below meth c T0 hx hby hml hown hnm hret hlk hZ X0 e0
  have N0 := Fr.nil n0
  have KK0 : Keep h0 h0 [] := Keep.refl _ _
  refine o_getS X0 hx hZ hown (host := "") (Or.inl (wd4 hw)) Via.refl e0 (Sta.ext O0.2 S_COMPACT_STRINGS) (hb hby d1_0) rfl fun T0_2 X0_2 e0_2 => ?_
  refine o_ifNo X0_2 hx (hb hby d1_3) ((if0 _ _).trans (feq hcs).1) rfl ?_
  refine o_iloadN X0_2 hx (hb hby d1_6) rfl rfl ?_
  refine o_static X0_2 hx hZ hown (wd5 hw) (wd6 hw) (by decide) (rm2 l Z a0 hw p1 h0 n0 O0 hp1) (wd8 hw) (wd7 hw) e0_2 (by rw [hml]; rfl) (argsL := [(.int p1)]) (rest := []) (W := 0) pd0 rfl rfl rfl rfl (hb hby d1_7) (by decide) (by decide) (by decide) (by decide) (cells' := 0) (slots' := 0) rfl rfl rfl fun v7 T7 h7 Lc7 X7 e7 hq7 => ?_
  obtain ⟨rfl, N7q, K7⟩ := hq7
  have N7 := Fr.app N0 N7q
  have e7_2 : T7.heap = h0 := e7.trans K7
  show Goes p.tables e below (Ends s (Q1 Z p1 cs h0 n0) ({ frames := 2, cells := 2, slots := 5, locals := 27 } : Room).cells ({ frames := 2, cells := 2, slots := 5, locals := 27 } : Room).slots) (T7.setTop (mkF m 10 #[.val (.int p1)] [(.int (1 : Int32))]))
  refine o_ifNo X7 hx (hb hby d1_10) ((if0 _ _).trans (feq (by decide)).1) rfl ?_
  refine o_new X7 hx hZ hown (wd9 hw) (wd10 hw) (wd2 hw) e7_2 (hb hby d1_13) (by decide) (by decide) (cells' := 1) (slots' := 4) rfl rfl rfl fun T13 h13 b13 g13 X13 e13 E13 A13 D13 => ?_
  have s_b13_h0 : h0.size ≤ b13 := Nat.le_trans KK0.1 (Nat.le_of_eq g13.symm)
  have n_b13 : n0 ≤ b13 := Nat.le_trans (O0.1 ▸ O0.2.1) (Nat.le_of_eq g13.symm)
  have KE13_h0 : Keep h0 h13 [] := KK0.ext E13
  have OE13 : Old Z n0 h13 := O0.ext E13
  have Fb13_value : Fld Z h13 b13 "java/lang/String" "value" "[B" .null := D13 (Or.inr (wd23 hw)) (ty := (.array .byte)) (by decide)
  have Fb13_coder : Fld Z h13 b13 "java/lang/String" "coder" "B" (.int (0 : Int32)) := D13 (Or.inr (wd25 hw)) (ty := .byte) (by decide)
  refine o_dup X13 hx (hb hby d1_16) rfl rfl ?_
  refine o_iloadN X13 hx (hb hby d1_17) rfl rfl ?_
  refine o_static X13 hx hZ hown (wd11 hw) (wd12 hw) (by decide) (rm3 l Z a0 hw p1 h13 n0 OE13 ) (wd13 hw) (wd7 hw) e13 (by rw [hml]; rfl) (argsL := [(.int p1)]) (rest := [(.ref b13), (.ref b13)]) (W := 2) pd1 rfl rfl rfl rfl (hb hby d1_18) (by decide) (by decide) (by decide) (by decide) (cells' := 2) (slots' := 5) rfl rfl rfl fun v18 T18 h18 Lc18 X18 e18 hq18 => ?_
  obtain ⟨t_18, k_18, rfl, N18q, K18, ht_18, qA_18⟩ := hq18
  have N18 := Fr.app N7 N18q
  have s_t_18_h0 : h0.size ≤ t_18 := Nat.le_trans KE13_h0.1 ht_18
  have n_t_18 : n0 ≤ t_18 := Nat.le_trans (OE13.1 ▸ OE13.2.1) ht_18
  have KK18_h0 : Keep h0 h18 [] := KE13_h0.trans K18 all0
  have OK18 : Old Z n0 h18 := OE13.keep K18 all0
  show Goes p.tables e below (Ends s (Q1 Z p1 cs h0 n0) ({ frames := 2, cells := 2, slots := 5, locals := 27 } : Room).cells ({ frames := 2, cells := 2, slots := 5, locals := 27 } : Room).slots) (T18.setTop (mkF m 21 #[.val (.int p1)] [(.ref t_18), (.ref b13), (.ref b13)]))
  refine o_iconst X18 hx (hb hby d1_21) (v := (0 : Int32)) rfl rfl ?_
  have fE22 : Exa Z h18 b13 "java/lang/String" := (A13.keep K18)
  have fF22 : Fld Z h18 b13 "java/lang/String" "value" "[B" .null := (Fb13_value.keep K18 nin0)
  have fF22_2 : Fld Z h18 b13 "java/lang/String" "coder" "B" (.int (0 : Int32)) := (Fb13_coder.keep K18 nin0)
  refine o_special X18 hx hZ rfl rfl hown (wd15 hw) (wd16 hw) (by decide) (a := b13) (rm4 l Z a0 hw b13 t_18 h18 n0 OK18 fE22 fF22 fF22_2 n_b13) (wd18 hw) (wd2 hw) e18 (by rw [hml]; rfl) (argsL := [(.ref t_18), (.int (0 : Int32))]) (rest := [(.ref b13)]) (W := 1) pd2 rfl rfl rfl rfl (hb hby d1_22) (by decide) (by decide) (by decide) (by decide) (cells' := 2) (slots' := 5) rfl rfl rfl fun v22 T22 h22 Lc22 X22 e22 hq22 => ?_
  obtain ⟨rfl, N22q, K22, qE_22, qF_22, qF_22_2⟩ := hq22
  have N22 := Fr.app N18 N22q
  have KK22_h0 : Keep h0 h22 [] := KK18_h0.trans K22 (allS (Or.inr s_b13_h0) all0)
  have OK22 : Old Z n0 h22 := OK18.keep K22 (allS n_b13 all0)
  show Goes p.tables e below (Ends s (Q1 Z p1 cs h0 n0) ({ frames := 2, cells := 2, slots := 5, locals := 27 } : Room).cells ({ frames := 2, cells := 2, slots := 5, locals := 27 } : Room).slots) (T22.setTop (mkF m 25 #[.val (.int p1)] [(.ref b13)]))
  have fA25 : Arv Z h22 t_18 k_18 .byte (1 : Int32) [(.int (nar .byte (p1.toInt8.toInt32)))] (.int (0 : Int32)) := (qA_18.keep K22 (ninS (Ne.symm (Nat.ne_of_lt (Nat.lt_of_lt_of_le A13.lt ht_18))) nin0))
  exact o_ret X22 hx hlk (t := (.object "java/lang/String")) hret rfl (Or.inr (Or.inr (Or.inr (Or.inr ⟨rfl, rfl, rfl⟩)))) (hb hby d1_25) (by decide) (by decide) e22 ⟨b13, t_18, k_18, rfl, N22, KK22_h0, s_b13_h0, s_t_18_h0, qE_22, qF_22, qF_22_2, fA25⟩
def Q6 (Z : State) (p1 : Int32) (en0 : Value) (en1 : Value) (en2 : Value) (en3 : Value) (en4 : Value) (h0 : Heap) (n0 : Nat) (v : Option Value) (h : Heap) (L : List Loc) : Prop := ∃ u : Value, v = some u ∧ Fr n0 L ∧ h = h0 ∧ (u.isRef = true)
set_option maxRecDepth 65536 in
set_option maxHeartbeats 40000000 in
theorem rm6 (l : Launch) (Z : State) (a0 : Array Value) (hw : ∀ d ∈ tables_1, d.before a0 Z = true) (p1 : Int32) (en0 : Value) (en1 : Value) (en2 : Value) (en3 : Value) (en4 : Value) (h0 : Heap) (n0 : Nat) (O0 : Old Z n0 h0) (S_LOGOUT : Sta Z Z.heap "com/example/hybrev/hybrev/Reason" "LOGOUT" "Lcom/example/hybrev/hybrev/Reason;" en0) (ren0 : en0.isRef = true) (S_PASSWORD_CHANGE : Sta Z Z.heap "com/example/hybrev/hybrev/Reason" "PASSWORD_CHANGE" "Lcom/example/hybrev/hybrev/Reason;" en1) (ren1 : en1.isRef = true) (S_COMPROMISED : Sta Z Z.heap "com/example/hybrev/hybrev/Reason" "COMPROMISED" "Lcom/example/hybrev/hybrev/Reason;" en2) (ren2 : en2.isRef = true) (S_ADMIN_REVOKE : Sta Z Z.heap "com/example/hybrev/hybrev/Reason" "ADMIN_REVOKE" "Lcom/example/hybrev/hybrev/Reason;" en3) (ren3 : en3.isRef = true) (S_UNKNOWN : Sta Z Z.heap "com/example/hybrev/hybrev/Reason" "UNKNOWN" "Lcom/example/hybrev/hybrev/Reason;" en4) (ren4 : en4.isRef = true) :
    Met l Z (⟨"com/example/hybrev/hybrev/UserRevocationRevokesPinLaw", "pick", "(I)Lcom/example/hybrev/hybrev/Reason;"⟩ : MethodName) method_2_code 2 (some (.object "com/example/hybrev/hybrev/Reason")) ({ frames := 0, cells := 0, slots := 0, locals := 0 } : Room) [] #[(.int p1)] h0 (Q6 Z p1 en0 en1 en2 en3 en4 h0 n0) := by
  refine met_of (L0 := #[.val (.int p1), .unset]) (plainFor_of_name pn3) (fun m => by first | (simp [entryFrame, mkF, argsToLocals, Value.category]; done) | rfl) ?_
  intro p e s m below meth c T0 hx hby hml hown hnm hret hlk hZ X0 e0
  have N0 := Fr.nil n0
  refine o_iloadN X0 hx (hb hby d6_0) rfl rfl ?_
  refine o_bipush X0 hx (hb hby d6_1) (v := (7 : Int32)) rfl rfl ?_
  refine o_iand X0 hx (hb hby d6_3) rfl ?_
  refine o_istoreN X0 hx (hb hby d6_4) (L' := #[.val (.int p1), .val (.int (p1 &&& (7 : Int32)))]) rfl rfl ?_
  refine o_iloadN X0 hx (hb hby d6_5) rfl rfl ?_
  by_cases hc6 : (p1 &&& (7 : Int32)) = (0 : Int32)
  ·
    refine o_ifNo X0 hx (hb hby d6_6) ((if0 _ _).trans (teq hc6).2) rfl ?_
    refine o_getS X0 hx hZ hown (host := "") (Or.inl (wd63 hw)) Via.refl e0 (Sta.ext O0.2 S_LOGOUT) (hb hby d6_9) rfl fun T9 X9 e9 => ?_
    exact o_ret X9 hx hlk (t := (.object "com/example/hybrev/hybrev/Reason")) hret (o_nar ren0) (Or.inr (Or.inr (Or.inr (Or.inr ⟨rfl, rfl, ren0⟩)))) (hb hby d6_12) (by decide) (by decide) e9 ⟨en0, rfl, N0, rfl, ren0⟩
  ·
    refine o_ifYes X0 hx (hb hby d6_6) ((if0 _ _).trans (feq hc6).2) (by decide) (pc' := 13) (by decide) ?_
    refine o_iloadN X0 hx (hb hby d6_13) rfl rfl ?_
    refine o_iconst X0 hx (hb hby d6_14) (v := (1 : Int32)) rfl rfl ?_
    by_cases hc15 : (p1 &&& (7 : Int32)) = (1 : Int32)
    ·
      refine o_icmpNo X0 hx (hb hby d6_15) (teq hc15).2 rfl ?_
      refine o_getS X0 hx hZ hown (host := "") (Or.inl (wd61 hw)) Via.refl e0 (Sta.ext O0.2 S_PASSWORD_CHANGE) (hb hby d6_18) rfl fun T18 X18 e18 => ?_
      exact o_ret X18 hx hlk (t := (.object "com/example/hybrev/hybrev/Reason")) hret (o_nar ren1) (Or.inr (Or.inr (Or.inr (Or.inr ⟨rfl, rfl, ren1⟩)))) (hb hby d6_21) (by decide) (by decide) e18 ⟨en1, rfl, N0, rfl, ren1⟩
    ·
      refine o_icmpYes X0 hx (hb hby d6_15) (feq hc15).2 (by decide) (pc' := 22) (by decide) ?_
      refine o_iloadN X0 hx (hb hby d6_22) rfl rfl ?_
      refine o_iconst X0 hx (hb hby d6_23) (v := (2 : Int32)) rfl rfl ?_
      by_cases hc24 : (p1 &&& (7 : Int32)) = (2 : Int32)
      ·
        refine o_icmpNo X0 hx (hb hby d6_24) (teq hc24).2 rfl ?_
        refine o_getS X0 hx hZ hown (host := "") (Or.inl (wd33 hw)) Via.refl e0 (Sta.ext O0.2 S_COMPROMISED) (hb hby d6_27) rfl fun T27 X27 e27 => ?_
        exact o_ret X27 hx hlk (t := (.object "com/example/hybrev/hybrev/Reason")) hret (o_nar ren2) (Or.inr (Or.inr (Or.inr (Or.inr ⟨rfl, rfl, ren2⟩)))) (hb hby d6_30) (by decide) (by decide) e27 ⟨en2, rfl, N0, rfl, ren2⟩
      ·
        refine o_icmpYes X0 hx (hb hby d6_24) (feq hc24).2 (by decide) (pc' := 31) (by decide) ?_
        refine o_iloadN X0 hx (hb hby d6_31) rfl rfl ?_
        refine o_iconst X0 hx (hb hby d6_32) (v := (3 : Int32)) rfl rfl ?_
        by_cases hc33 : (p1 &&& (7 : Int32)) = (3 : Int32)
        ·
          refine o_icmpNo X0 hx (hb hby d6_33) (teq hc33).2 rfl ?_
          refine o_getS X0 hx hZ hown (host := "") (Or.inl (wd65 hw)) Via.refl e0 (Sta.ext O0.2 S_ADMIN_REVOKE) (hb hby d6_36) rfl fun T36 X36 e36 => ?_
          exact o_ret X36 hx hlk (t := (.object "com/example/hybrev/hybrev/Reason")) hret (o_nar ren3) (Or.inr (Or.inr (Or.inr (Or.inr ⟨rfl, rfl, ren3⟩)))) (hb hby d6_39) (by decide) (by decide) e36 ⟨en3, rfl, N0, rfl, ren3⟩
        ·
          refine o_icmpYes X0 hx (hb hby d6_33) (feq hc33).2 (by decide) (pc' := 40) (by decide) ?_
          refine o_iloadN X0 hx (hb hby d6_40) rfl rfl ?_
          refine o_iconst X0 hx (hb hby d6_41) (v := (4 : Int32)) rfl rfl ?_
          by_cases hc42 : (p1 &&& (7 : Int32)) = (4 : Int32)
          ·
            refine o_icmpNo X0 hx (hb hby d6_42) (teq hc42).2 rfl ?_
            refine o_getS X0 hx hZ hown (host := "") (Or.inl (wd67 hw)) Via.refl e0 (Sta.ext O0.2 S_UNKNOWN) (hb hby d6_45) rfl fun T45 X45 e45 => ?_
            exact o_ret X45 hx hlk (t := (.object "com/example/hybrev/hybrev/Reason")) hret (o_nar ren4) (Or.inr (Or.inr (Or.inr (Or.inr ⟨rfl, rfl, ren4⟩)))) (hb hby d6_48) (by decide) (by decide) e45 ⟨en4, rfl, N0, rfl, ren4⟩
          ·
            refine o_icmpYes X0 hx (hb hby d6_42) (feq hc42).2 (by decide) (pc' := 49) (by decide) ?_
            refine o_aconstNull X0 hx (hb hby d6_49) rfl ?_
            exact o_ret X0 hx hlk (t := (.object "com/example/hybrev/hybrev/Reason")) hret rfl (Or.inr (Or.inr (Or.inr (Or.inr ⟨rfl, rfl, rfl⟩)))) (hb hby d6_50) (by decide) (by decide) e0 ⟨.null, rfl, N0, rfl, rfl⟩
def Q7 (Z : State) (a1 : Addr) (u1 : Value) (u2 : Value) (q1 : Int64) (u3 : Value) (h0 : Heap) (n0 : Nat) (v : Option Value) (h : Heap) (L : List Loc) : Prop := v = none ∧ Fr n0 L ∧ Keep h0 h [a1] ∧ Exa Z h a1 "com/example/hybrev/hybrev/UserRevocation" ∧ Fld Z h a1 "com/example/hybrev/hybrev/UserRevocation" "cutoff" "J" (.long q1)
set_option maxRecDepth 65536 in
set_option maxHeartbeats 40000000 in
theorem rm7 (l : Launch) (Z : State) (a0 : Array Value) (hw : ∀ d ∈ tables_1, d.before a0 Z = true) (a1 : Addr) (u1 : Value) (u2 : Value) (q1 : Int64) (u3 : Value) (h0 : Heap) (n0 : Nat) (O0 : Old Z n0 h0) (E_a1 : Exa Z h0 a1 "com/example/hybrev/hybrev/UserRevocation") (F_a1_userId : Fld Z h0 a1 "com/example/hybrev/hybrev/UserRevocation" "userId" "Ljava/lang/String;" .null) (F_a1_reason : Fld Z h0 a1 "com/example/hybrev/hybrev/UserRevocation" "reason" "Lcom/example/hybrev/hybrev/Reason;" .null) (F_a1_cutoff : Fld Z h0 a1 "com/example/hybrev/hybrev/UserRevocation" "cutoff" "J" (.long (0 : Int64))) (F_a1_revokedBy : Fld Z h0 a1 "com/example/hybrev/hybrev/UserRevocation" "revokedBy" "Ljava/lang/String;" .null) (na1 : n0 ≤ a1) (ru1 : u1.isRef = true) (ru2 : u2.isRef = true) (ru3 : u3.isRef = true) :
    Met l Z (⟨"com/example/hybrev/hybrev/UserRevocation", "<init>", "(Ljava/lang/String;Lcom/example/hybrev/hybrev/Reason;JLjava/lang/String;)V"⟩ : MethodName) prog_25_method_1_code 6 none ({ frames := 1, cells := 0, slots := 0, locals := 12 } : Room) [] #[(.ref a1), u1, u2, (.long q1), u3] h0 (Q7 Z a1 u1 u2 q1 u3 h0 n0) := by
  refine met_of (L0 := #[.val (.ref a1), .val u1, .val u2, .val (.long q1), .second, .val u3]) (plainFor_of_name pn4) (fun m => by rcases ref_cases ru1 with rfl | ⟨_, rfl⟩ <;> rcases ref_cases ru2 with rfl | ⟨_, rfl⟩ <;> rcases ref_cases ru3 with rfl | ⟨_, rfl⟩ <;> rfl) ?_
  intro p e s m below meth c T0 hx hby hml hown hnm hret hlk hZ X0 e0
  have N0 := Fr.nil n0
  have KK0 : Keep h0 h0 [a1] := Keep.refl _ _
  refine o_aloadN X0 hx (hb hby d7_0) rfl rfl rfl ?_
  refine o_initO X0 hx hZ hown (wd39 hw) (wd20 hw) (wd21 hw) e0 (by rw [hml]; rfl) (hb hby d7_1) (by decide) (W := 0) rfl (by decide) rfl fun T1 X1 e1 => ?_
  refine o_aloadN X1 hx (hb hby d7_4) rfl rfl rfl ?_
  refine o_aloadN X1 hx (hb hby d7_5) rfl ru1 rfl ?_
  refine o_putF X1 hx hZ hown (host := "") (Or.inl (wd40 hw)) Via.refl e1 F_a1_userId E_a1 (Or.inr ⟨(wd41 hw), rfl, hnm⟩) (wd27 hw) (ty := (.object "java/lang/String")) (by decide) (o_nar ru1) (o_fit ru1) (hb hby d7_6) rfl fun T6 h6 X6 e6 W6 => ?_
  have F6 : Fld Z h6 a1 "com/example/hybrev/hybrev/UserRevocation" "userId" "Ljava/lang/String;" u1 := F_a1_userId.same W6
  have N6 := Fr.snoc X6 N0 na1
  have KW6_h0 : Keep h0 h6 [a1] := KK0.wr W6 (Or.inl (List.mem_of_getElem? (i := 0) rfl))
  have OW6 : Old Z n0 h6 := O0.wr W6 na1
  refine o_aloadN X6 hx (hb hby d7_9) rfl rfl rfl ?_
  refine o_aloadN X6 hx (hb hby d7_10) rfl ru2 rfl ?_
  have fF11 : Fld Z h6 a1 "com/example/hybrev/hybrev/UserRevocation" "reason" "Lcom/example/hybrev/hybrev/Reason;" .null := (F_a1_reason.other W6 (Or.inr (slot_ne (Z := Z) (a0 := a0) (Or.inr (wd43 hw)) (Or.inr (wd41 hw)) (by decide) (t := (.object "com/example/hybrev/hybrev/Reason")) (t' := (.object "java/lang/String")) (by decide) (by decide))))
  have fE11 : Exa Z h6 a1 "com/example/hybrev/hybrev/UserRevocation" := (E_a1.wr W6)
  refine o_putF X6 hx hZ hown (host := "") (Or.inl (wd42 hw)) Via.refl e6 fF11 fE11 (Or.inr ⟨(wd43 hw), rfl, hnm⟩) (wd27 hw) (ty := (.object "com/example/hybrev/hybrev/Reason")) (by decide) (o_nar ru2) (o_fit ru2) (hb hby d7_11) rfl fun T11 h11 X11 e11 W11 => ?_
  have F11 : Fld Z h11 a1 "com/example/hybrev/hybrev/UserRevocation" "reason" "Lcom/example/hybrev/hybrev/Reason;" u2 := fF11.same W11
  have N11 := Fr.snoc X11 N6 na1
  have KW11_h0 : Keep h0 h11 [a1] := KW6_h0.wr W11 (Or.inl (List.mem_of_getElem? (i := 0) rfl))
  have OW11 : Old Z n0 h11 := OW6.wr W11 na1
  refine o_aloadN X11 hx (hb hby d7_14) rfl rfl rfl ?_
  refine o_lloadN X11 hx (hb hby d7_15) rfl rfl ?_
  have fF16 : Fld Z h11 a1 "com/example/hybrev/hybrev/UserRevocation" "cutoff" "J" (.long (0 : Int64)) := ((F_a1_cutoff.other W6 (Or.inr (slot_ne (Z := Z) (a0 := a0) (Or.inr (wd45 hw)) (Or.inr (wd41 hw)) (by decide) (t := .long) (t' := (.object "java/lang/String")) (by decide) (by decide)))).other W11 (Or.inr (slot_ne (Z := Z) (a0 := a0) (Or.inr (wd45 hw)) (Or.inr (wd43 hw)) (by decide) (t := .long) (t' := (.object "com/example/hybrev/hybrev/Reason")) (by decide) (by decide))))
  have fE16 : Exa Z h11 a1 "com/example/hybrev/hybrev/UserRevocation" := (fE11.wr W11)
  refine o_putF X11 hx hZ hown (host := "") (Or.inl (wd44 hw)) Via.refl e11 fF16 fE16 (Or.inr ⟨(wd45 hw), rfl, hnm⟩) (wd27 hw) (ty := .long) (by decide) rfl rfl (hb hby d7_16) rfl fun T16 h16 X16 e16 W16 => ?_
  have F16 : Fld Z h16 a1 "com/example/hybrev/hybrev/UserRevocation" "cutoff" "J" (.long q1) := fF16.same W16
  have N16 := Fr.snoc X16 N11 na1
  have KW16_h0 : Keep h0 h16 [a1] := KW11_h0.wr W16 (Or.inl (List.mem_of_getElem? (i := 0) rfl))
  have OW16 : Old Z n0 h16 := OW11.wr W16 na1
  refine o_aloadN X16 hx (hb hby d7_19) rfl rfl rfl ?_
  refine o_aload X16 hx (hb hby d7_20) rfl ru3 rfl ?_
  have fF22 : Fld Z h16 a1 "com/example/hybrev/hybrev/UserRevocation" "revokedBy" "Ljava/lang/String;" .null := (((F_a1_revokedBy.other W6 (Or.inr (slot_ne (Z := Z) (a0 := a0) (Or.inr (wd47 hw)) (Or.inr (wd41 hw)) (by decide) (t := (.object "java/lang/String")) (t' := (.object "java/lang/String")) (by decide) (by decide)))).other W11 (Or.inr (slot_ne (Z := Z) (a0 := a0) (Or.inr (wd47 hw)) (Or.inr (wd43 hw)) (by decide) (t := (.object "java/lang/String")) (t' := (.object "com/example/hybrev/hybrev/Reason")) (by decide) (by decide)))).other W16 (Or.inr (slot_ne (Z := Z) (a0 := a0) (Or.inr (wd47 hw)) (Or.inr (wd45 hw)) (by decide) (t := (.object "java/lang/String")) (t' := .long) (by decide) (by decide))))
  have fE22 : Exa Z h16 a1 "com/example/hybrev/hybrev/UserRevocation" := (fE16.wr W16)
  refine o_putF X16 hx hZ hown (host := "") (Or.inl (wd46 hw)) Via.refl e16 fF22 fE22 (Or.inr ⟨(wd47 hw), rfl, hnm⟩) (wd27 hw) (ty := (.object "java/lang/String")) (by decide) (o_nar ru3) (o_fit ru3) (hb hby d7_22) rfl fun T22 h22 X22 e22 W22 => ?_
  have F22 : Fld Z h22 a1 "com/example/hybrev/hybrev/UserRevocation" "revokedBy" "Ljava/lang/String;" u3 := fF22.same W22
  have N22 := Fr.snoc X22 N16 na1
  have KW22_h0 : Keep h0 h22 [a1] := KW16_h0.wr W22 (Or.inl (List.mem_of_getElem? (i := 0) rfl))
  have OW22 : Old Z n0 h22 := OW16.wr W22 na1
  have fE25 : Exa Z h22 a1 "com/example/hybrev/hybrev/UserRevocation" := (fE22.wr W22)
  have fF25 : Fld Z h22 a1 "com/example/hybrev/hybrev/UserRevocation" "cutoff" "J" (.long q1) := (F16.other W22 (Or.inr (slot_ne (Z := Z) (a0 := a0) (Or.inr (wd45 hw)) (Or.inr (wd47 hw)) (by decide) (t := .long) (t' := (.object "java/lang/String")) (by decide) (by decide))))
  exact o_retV X22 hx hlk hret (hb hby d7_25) (by decide) (by decide) e22 ⟨rfl, N22, KW22_h0, fE25, fF25⟩
def Q8 (Z : State) (a1 : Addr) (x1 : Int64) (q1 : Int64) (h0 : Heap) (n0 : Nat) (v : Option Value) (h : Heap) (L : List Loc) : Prop := ∃ z : Int32, v = some (.int z) ∧ Fr n0 L ∧ h = h0 ∧ (z = 1 ∧ ¬ (q1 < x1) ∨ z = 0 ∧ q1 < x1)
set_option maxRecDepth 65536 in
set_option maxHeartbeats 40000000 in
theorem rm8 (l : Launch) (Z : State) (a0 : Array Value) (hw : ∀ d ∈ tables_1, d.before a0 Z = true) (a1 : Addr) (x1 : Int64) (q1 : Int64) (h0 : Heap) (n0 : Nat) (O0 : Old Z n0 h0) (F_a1_cutoff : Fld Z h0 a1 "com/example/hybrev/hybrev/UserRevocation" "cutoff" "J" (.long q1)) :
    Met l Z (⟨"com/example/hybrev/hybrev/UserRevocation", "revokes", "(J)Z"⟩ : MethodName) prog_25_method_2_code 3 (some .boolean) ({ frames := 0, cells := 0, slots := 0, locals := 0 } : Room) [] #[(.ref a1), (.long x1)] h0 (Q8 Z a1 x1 q1 h0 n0) := by
  refine met_of (L0 := #[.val (.ref a1), .val (.long x1), .second]) (plainFor_of_name pn4) (fun m => by first | (simp [entryFrame, mkF, argsToLocals, Value.category]; done) | rfl) ?_
  intro p e s m below meth c T0 hx hby hml hown hnm hret hlk hZ X0 e0
  have N0 := Fr.nil n0
  refine o_lloadN X0 hx (hb hby d8_0) rfl rfl ?_
  refine o_aloadN X0 hx (hb hby d8_1) rfl rfl rfl ?_
  refine o_getF X0 hx hZ hown (host := "") (Or.inl (wd44 hw)) Via.refl e0 F_a1_cutoff (hb hby d8_2) rfl fun T2 X2 e2 => ?_
  refine o_lcmp X2 hx (hb hby d8_5) rfl ?_
  by_cases hc6 : q1 < x1
  ·
    refine o_ifYes X2 hx (hb hby d8_6) ((if0 _ _).trans (tlt ((lw_gt _ _).mpr hc6)).2.2.1) (by decide) (pc' := 13) (by decide) ?_
    refine o_iconst X2 hx (hb hby d8_13) (v := (0 : Int32)) rfl rfl ?_
    exact o_ret X2 hx hlk (t := .boolean) hret rfl (Or.inl ⟨rfl, by decide, _, rfl⟩) (hb hby d8_14) (by decide) (by decide) e2 ⟨(0 : Int32), rfl, N0, rfl, (Or.inr ⟨rfl, hc6⟩)⟩
  ·
    refine o_ifNo X2 hx (hb hby d8_6) ((if0 _ _).trans (flt (fun q => hc6 ((lw_gt _ _).mp q))).2.2.1) rfl ?_
    refine o_iconst X2 hx (hb hby d8_9) (v := (1 : Int32)) rfl rfl ?_
    refine o_goto X2 hx (hb hby d8_10) (by decide) (pc' := 14) (by decide) ?_
    exact o_ret X2 hx hlk (t := .boolean) hret rfl (Or.inl ⟨rfl, by decide, _, rfl⟩) (hb hby d8_14) (by decide) (by decide) e2 ⟨(1 : Int32), rfl, N0, rfl, (Or.inl ⟨rfl, hc6⟩)⟩
def Q9 (Z : State) (q1 : Int64) (q2 : Int64) (h0 : Heap) (n0 : Nat) (v : Option Value) (h : Heap) (L : List Loc) : Prop := ∃ r : Int64, v = some (.long r) ∧ Fr n0 L ∧ h = h0 ∧ (r = q1 ∧ ¬ (q2 < q1) ∨ r = q2 ∧ q2 < q1)
set_option maxRecDepth 65536 in
set_option maxHeartbeats 40000000 in
theorem rm9 (l : Launch) (Z : State) (a0 : Array Value) (hw : ∀ d ∈ tables_1, d.before a0 Z = true) (q1 : Int64) (q2 : Int64) (h0 : Heap) (n0 : Nat) (O0 : Old Z n0 h0) :
    Met l Z (⟨"java/lang/Math", "min", "(JJ)J"⟩ : MethodName) jdk_29_method_70_code 4 (some .long) ({ frames := 0, cells := 0, slots := 0, locals := 0 } : Room) [] #[(.long q1), (.long q2)] h0 (Q9 Z q1 q2 h0 n0) := by
  refine met_of (L0 := #[.val (.long q1), .second, .val (.long q2), .second]) (Jvm.Free.JP.mathPlain rfl (by decide +kernel)) (fun m => by first | (simp [entryFrame, mkF, argsToLocals, Value.category]; done) | rfl) ?_
  intro p e s m below meth c T0 hx hby hml hown hnm hret hlk hZ X0 e0
  have N0 := Fr.nil n0
  refine o_lloadN X0 hx (hb hby d9_0) rfl rfl ?_
  refine o_lloadN X0 hx (hb hby d9_1) rfl rfl ?_
  refine o_lcmp X0 hx (hb hby d9_2) rfl ?_
  by_cases hc3 : q2 < q1
  ·
    refine o_ifYes X0 hx (hb hby d9_3) ((if0 _ _).trans (tlt ((lw_gt _ _).mpr hc3)).2.2.1) (by decide) (pc' := 10) (by decide) ?_
    refine o_lloadN X0 hx (hb hby d9_10) rfl rfl ?_
    exact o_ret X0 hx hlk (t := .long) hret rfl (Or.inr (Or.inl ⟨rfl, rfl, _, rfl⟩)) (hb hby d9_11) (by decide) (by decide) e0 ⟨q2, rfl, N0, rfl, (Or.inr ⟨rfl, hc3⟩)⟩
  ·
    refine o_ifNo X0 hx (hb hby d9_3) ((if0 _ _).trans (flt (fun q => hc3 ((lw_gt _ _).mp q))).2.2.1) rfl ?_
    refine o_lloadN X0 hx (hb hby d9_6) rfl rfl ?_
    refine o_goto X0 hx (hb hby d9_7) (by decide) (pc' := 11) (by decide) ?_
    exact o_ret X0 hx hlk (t := .long) hret rfl (Or.inr (Or.inl ⟨rfl, rfl, _, rfl⟩)) (hb hby d9_11) (by decide) (by decide) e0 ⟨q1, rfl, N0, rfl, (Or.inl ⟨rfl, hc3⟩)⟩
def Q10 (Z : State) (q1 : Int64) (q2 : Int64) (h0 : Heap) (n0 : Nat) (v : Option Value) (h : Heap) (L : List Loc) : Prop := ∃ r : Int64, v = some (.long r) ∧ Fr n0 L ∧ h = h0 ∧ (r = q1 ∧ ¬ (q1 < q2) ∨ r = q2 ∧ q1 < q2)
set_option maxRecDepth 65536 in
set_option maxHeartbeats 40000000 in
theorem rm10 (l : Launch) (Z : State) (a0 : Array Value) (hw : ∀ d ∈ tables_1, d.before a0 Z = true) (q1 : Int64) (q2 : Int64) (h0 : Heap) (n0 : Nat) (O0 : Old Z n0 h0) :
    Met l Z (⟨"java/lang/Math", "max", "(JJ)J"⟩ : MethodName) jdk_29_method_66_code 4 (some .long) ({ frames := 0, cells := 0, slots := 0, locals := 0 } : Room) [] #[(.long q1), (.long q2)] h0 (Q10 Z q1 q2 h0 n0) := by
  refine met_of (L0 := #[.val (.long q1), .second, .val (.long q2), .second]) (Jvm.Free.JP.mathPlain rfl (by decide +kernel)) (fun m => by first | (simp [entryFrame, mkF, argsToLocals, Value.category]; done) | rfl) ?_
  intro p e s m below meth c T0 hx hby hml hown hnm hret hlk hZ X0 e0
  have N0 := Fr.nil n0
  refine o_lloadN X0 hx (hb hby d10_0) rfl rfl ?_
  refine o_lloadN X0 hx (hb hby d10_1) rfl rfl ?_
  refine o_lcmp X0 hx (hb hby d10_2) rfl ?_
  by_cases hc3 : q1 < q2
  ·
    refine o_ifYes X0 hx (hb hby d10_3) ((if0 _ _).trans (tlt ((lw_lt _ _).mpr hc3)).1) (by decide) (pc' := 10) (by decide) ?_
    refine o_lloadN X0 hx (hb hby d10_10) rfl rfl ?_
    exact o_ret X0 hx hlk (t := .long) hret rfl (Or.inr (Or.inl ⟨rfl, rfl, _, rfl⟩)) (hb hby d10_11) (by decide) (by decide) e0 ⟨q2, rfl, N0, rfl, (Or.inr ⟨rfl, hc3⟩)⟩
  ·
    refine o_ifNo X0 hx (hb hby d10_3) ((if0 _ _).trans (flt (fun q => hc3 ((lw_lt _ _).mp q))).1) rfl ?_
    refine o_lloadN X0 hx (hb hby d10_6) rfl rfl ?_
    refine o_goto X0 hx (hb hby d10_7) (by decide) (pc' := 11) (by decide) ?_
    exact o_ret X0 hx hlk (t := .long) hret rfl (Or.inr (Or.inl ⟨rfl, rfl, _, rfl⟩)) (hb hby d10_11) (by decide) (by decide) e0 ⟨q1, rfl, N0, rfl, (Or.inl ⟨rfl, hc3⟩)⟩
def Q0 (Z : State) (q0 : Int64) (q2 : Int64) (q4 : Int64) (p6 : Int32) (p7 : Int32) (cs : Int32) (en0 : Value) (en1 : Value) (en2 : Value) (en3 : Value) (en4 : Value) (h0 : Heap) (n0 : Nat) (v : Option Value) (h : Heap) (L : List Loc) : Prop := v = some (.int (1 : Int32)) ∧ Fr n0 L ∧ Keep h0 h []
set_option maxRecDepth 65536 in
set_option maxHeartbeats 40000000 in
theorem rm0 (l : Launch) (Z : State) (a0 : Array Value) (hw : ∀ d ∈ tables_1, d.before a0 Z = true) (ws : List Jvm.Cond) (q0 : Int64) (q2 : Int64) (q4 : Int64) (p6 : Int32) (p7 : Int32) (cs : Int32) (en0 : Value) (en1 : Value) (en2 : Value) (en3 : Value) (en4 : Value) (h0 : Heap) (n0 : Nat) (O0 : Old Z n0 h0) (S_COMPACT_STRINGS : Sta Z Z.heap "java/lang/String" "COMPACT_STRINGS" "Z" (.int cs)) (hcs : ¬ (cs = (0 : Int32))) (S_LOGOUT : Sta Z Z.heap "com/example/hybrev/hybrev/Reason" "LOGOUT" "Lcom/example/hybrev/hybrev/Reason;" en0) (ren0 : en0.isRef = true) (S_PASSWORD_CHANGE : Sta Z Z.heap "com/example/hybrev/hybrev/Reason" "PASSWORD_CHANGE" "Lcom/example/hybrev/hybrev/Reason;" en1) (ren1 : en1.isRef = true) (S_COMPROMISED : Sta Z Z.heap "com/example/hybrev/hybrev/Reason" "COMPROMISED" "Lcom/example/hybrev/hybrev/Reason;" en2) (ren2 : en2.isRef = true) (S_ADMIN_REVOKE : Sta Z Z.heap "com/example/hybrev/hybrev/Reason" "ADMIN_REVOKE" "Lcom/example/hybrev/hybrev/Reason;" en3) (ren3 : en3.isRef = true) (S_UNKNOWN : Sta Z Z.heap "com/example/hybrev/hybrev/Reason" "UNKNOWN" "Lcom/example/hybrev/hybrev/Reason;" en4) (ren4 : en4.isRef = true) :
    Met l Z x code maxLocals ret room_1 ws #[(.long q0), (.long q2), (.long q4), (.int p6), (.int p7)] h0 (Q0 Z q0 q2 q4 p6 p7 cs en0 en1 en2 en3 en4 h0 n0) := by
  refine met_of (L0 := #[.val (.long q0), .second, .val (.long q2), .second, .val (.long q4), .second, .val (.int p6), .val (.int p7), .unset, .unset, .unset, .unset, .unset, .unset, .unset, .unset, .unset, .unset]) (plainFor_of_name pn0) (fun m => by first | (simp [entryFrame, mkF, argsToLocals, Value.category, maxLocals]; done) | rfl) ?_
  intro p e s m below meth c T0 hx hby hml hown hnm hret hlk hZ X0 e0
  have N0 := Fr.nil n0
  have KK0 : Keep h0 h0 [] := Keep.refl _ _
  refine o_iload X0 hx (hb hby at_0) rfl rfl ?_
  refine o_sipush X0 hx (hb hby at_2) (v := (255 : Int32)) rfl rfl ?_
  refine o_iand X0 hx (hb hby at_5) rfl ?_
  refine o_i2c X0 hx (hb hby at_6) rfl ?_
  refine o_static X0 hx hZ hown (wd0 hw) (wd1 hw) (by decide) (rm1 l Z a0 hw (((p7 &&& (255 : Int32)).toUInt32.toUInt16.toUInt32.toInt32)) cs h0 n0 O0 S_COMPACT_STRINGS hcs (own_c255 _)) (wd3 hw) (wd2 hw) e0 (by rw [hml]; rfl) (argsL := [(.int ((p7 &&& (255 : Int32)).toUInt32.toUInt16.toUInt32.toInt32))]) (rest := []) (W := 0) pd3 rfl rfl rfl rfl (hb hby at_7) (by decide) (by decide) (by decide) (by decide) (cells' := 2) (slots' := 5) rfl rfl rfl fun v7 T7 h7 Lc7 X7 e7 hq7 => ?_
  obtain ⟨b_7, t_7, k_7, rfl, N7q, K7, hb_7, ht_7, qE_7, qF_7, qF_7_2, qA_7⟩ := hq7
  have N7 := Fr.app N0 N7q
  have s_b_7_h0 : h0.size ≤ b_7 := Nat.le_trans KK0.1 hb_7
  have n_b_7 : n0 ≤ b_7 := Nat.le_trans (O0.1 ▸ O0.2.1) hb_7
  have s_t_7_h0 : h0.size ≤ t_7 := Nat.le_trans KK0.1 ht_7
  have n_t_7 : n0 ≤ t_7 := Nat.le_trans (O0.1 ▸ O0.2.1) ht_7
  have KK7_h0 : Keep h0 h7 [] := KK0.trans K7 all0
  have OK7 : Old Z n0 h7 := O0.keep K7 all0
  show Goes p.tables e below (Ends s (Q0 Z q0 q2 q4 p6 p7 cs en0 en1 en2 en3 en4 h0 n0) room_1.cells room_1.slots) (T7.setTop (mkF m 10 #[.val (.long q0), .second, .val (.long q2), .second, .val (.long q4), .second, .val (.int p6), .val (.int p7), .unset, .unset, .unset, .unset, .unset, .unset, .unset, .unset, .unset, .unset] [(.ref b_7)]))
  refine o_astore X7 hx (hb hby at_10) rfl (L' := #[.val (.long q0), .second, .val (.long q2), .second, .val (.long q4), .second, .val (.int p6), .val (.int p7), .val (.ref b_7), .unset, .unset, .unset, .unset, .unset, .unset, .unset, .unset, .unset]) rfl rfl ?_
  refine o_iload X7 hx (hb hby at_12) rfl rfl ?_
  refine o_iconst X7 hx (hb hby at_14) (v := (3 : Int32)) rfl rfl ?_
  refine o_iushr X7 hx (hb hby at_15) rfl ?_
  refine o_iconst X7 hx (hb hby at_16) (v := (1 : Int32)) rfl rfl ?_
  refine o_iand X7 hx (hb hby at_17) rfl ?_
  suffices J38 : ∀ (T38 : State) (l38 : List Loc) (h38 : Heap) (z38 : Value) (X38 : Stand p l e room_1 s m #[(.long q0), (.long q2), (.long q4), (.int p6), (.int p7)] below meth c T38 l38 4 10) (e38 : T38.heap = h38) (N38 : Fr n0 l38) (KJ38 : Keep h7 h38 []) (r_z38 : z38.isRef = true) (hz38 : True), Goes p.tables e below (Ends s (Q0 Z q0 q2 q4 p6 p7 cs en0 en1 en2 en3 en4 h0 n0) room_1.cells room_1.slots) (T38.setTop (mkF m 38 #[.val (.long q0), .second, .val (.long q2), .second, .val (.long q4), .second, .val (.int p6), .val (.int p7), .val (.ref b_7), .unset, .unset, .unset, .unset, .unset, .unset, .unset, .unset, .unset] [z38])) by
    have KR18 : Keep h7 h7 [] := Keep.refl _ _
    by_cases hc18 : (((p6.toUInt32 >>> ((3 : Int32) &&& 31).toUInt32).toInt32) &&& (1 : Int32)) = (0 : Int32)
    ·
      refine o_ifYes X7 hx (hb hby at_18) ((if0 _ _).trans (teq hc18).1) (by decide) (pc' := 25) (by decide) ?_
      refine o_iload X7 hx (hb hby at_25) rfl rfl ?_
      refine o_bipush X7 hx (hb hby at_27) (v := (8 : Int32)) rfl rfl ?_
      refine o_iushr X7 hx (hb hby at_29) rfl ?_
      refine o_sipush X7 hx (hb hby at_30) (v := (255 : Int32)) rfl rfl ?_
      refine o_iand X7 hx (hb hby at_33) rfl ?_
      refine o_i2c X7 hx (hb hby at_34) rfl ?_
      refine o_static X7 hx hZ hown (wd0 hw) (wd1 hw) (by decide) (rm1 l Z a0 hw (((((p7.toUInt32 >>> ((8 : Int32) &&& 31).toUInt32).toInt32) &&& (255 : Int32)).toUInt32.toUInt16.toUInt32.toInt32)) cs h7 n0 OK7 S_COMPACT_STRINGS hcs (own_c255 _)) (wd3 hw) (wd2 hw) e7 (by rw [hml]; rfl) (argsL := [(.int ((((p7.toUInt32 >>> ((8 : Int32) &&& 31).toUInt32).toInt32) &&& (255 : Int32)).toUInt32.toUInt16.toUInt32.toInt32))]) (rest := []) (W := 0) pd3 rfl rfl rfl rfl (hb hby at_35) (by decide) (by decide) (by decide) (by decide) (cells' := 4) (slots' := 10) rfl rfl rfl fun v35 T35 h35 Lc35 X35 e35 hq35 => ?_
      obtain ⟨b_35, t_35, k_35, rfl, N35q, K35, hb_35, ht_35, qE_35, qF_35, qF_35_2, qA_35⟩ := hq35
      have N35 := Fr.app N7 N35q
      have s_b_35_h0 : h0.size ≤ b_35 := Nat.le_trans KK7_h0.1 hb_35
      have s_b_35_h7 : h7.size ≤ b_35 := Nat.le_trans KR18.1 hb_35
      have n_b_35 : n0 ≤ b_35 := Nat.le_trans (OK7.1 ▸ OK7.2.1) hb_35
      have s_t_35_h0 : h0.size ≤ t_35 := Nat.le_trans KK7_h0.1 ht_35
      have s_t_35_h7 : h7.size ≤ t_35 := Nat.le_trans KR18.1 ht_35
      have n_t_35 : n0 ≤ t_35 := Nat.le_trans (OK7.1 ▸ OK7.2.1) ht_35
      have KK35_h0 : Keep h0 h35 [] := KK7_h0.trans K35 all0
      have KK35_h7 : Keep h7 h35 [] := KR18.trans K35 all0
      have OK35 : Old Z n0 h35 := OK7.keep K35 all0
      show Goes p.tables e below (Ends s (Q0 Z q0 q2 q4 p6 p7 cs en0 en1 en2 en3 en4 h0 n0) room_1.cells room_1.slots) (T35.setTop (mkF m 38 #[.val (.long q0), .second, .val (.long q2), .second, .val (.long q4), .second, .val (.int p6), .val (.int p7), .val (.ref b_7), .unset, .unset, .unset, .unset, .unset, .unset, .unset, .unset, .unset] [(.ref b_35)]))
      exact J38 T35 _ h35 (.ref b_35) X35 e35 N35 KK35_h7 rfl trivial
    ·
      refine o_ifNo X7 hx (hb hby at_18) ((if0 _ _).trans (feq hc18).1) rfl ?_
      refine o_aconstNull X7 hx (hb hby at_21) rfl ?_
      refine o_goto X7 hx (hb hby at_22) (by decide) (pc' := 38) (by decide) ?_
      exact J38 T7 _ h7 (.null) (X7.more (by decide) (by decide)) e7 N7 KR18 rfl trivial
  intro T38 l38 h38 z38 X38 e38 N38 KJ38 r_z38 hz38
  have KKJ38_h0 : Keep h0 h38 [] := KK7_h0.trans KJ38 all0
  have OKJ38 : Old Z n0 h38 := OK7.keep KJ38 all0
  refine o_astore X38 hx (hb hby at_38) r_z38 (L' := #[.val (.long q0), .second, .val (.long q2), .second, .val (.long q4), .second, .val (.int p6), .val (.int p7), .val (.ref b_7), .val z38, .unset, .unset, .unset, .unset, .unset, .unset, .unset, .unset]) (XS.store1 (o := .unset) rfl (Or.inl rfl) (o_cat r_z38)) rfl ?_
  refine o_new X38 hx hZ hown (wd26 hw) (wd27 hw) (wd28 hw) e38 (hb hby at_40) (by decide) (by decide) (cells' := 5) (slots' := 14) rfl rfl rfl fun T40 h40 b40 g40 X40 e40 E40 A40 D40 => ?_
  have s_b40_h0 : h0.size ≤ b40 := Nat.le_trans KKJ38_h0.1 (Nat.le_of_eq g40.symm)
  have n_b40 : n0 ≤ b40 := Nat.le_trans (OKJ38.1 ▸ OKJ38.2.1) (Nat.le_of_eq g40.symm)
  have KE40_h0 : Keep h0 h40 [] := KKJ38_h0.ext E40
  have OE40 : Old Z n0 h40 := OKJ38.ext E40
  have Fb40_userId : Fld Z h40 b40 "com/example/hybrev/hybrev/UserRevocation" "userId" "Ljava/lang/String;" .null := D40 (Or.inr (wd41 hw)) (ty := (.object "java/lang/String")) (by decide)
  have Fb40_reason : Fld Z h40 b40 "com/example/hybrev/hybrev/UserRevocation" "reason" "Lcom/example/hybrev/hybrev/Reason;" .null := D40 (Or.inr (wd43 hw)) (ty := (.object "com/example/hybrev/hybrev/Reason")) (by decide)
  have Fb40_cutoff : Fld Z h40 b40 "com/example/hybrev/hybrev/UserRevocation" "cutoff" "J" (.long (0 : Int64)) := D40 (Or.inr (wd45 hw)) (ty := .long) (by decide)
  have Fb40_revokedBy : Fld Z h40 b40 "com/example/hybrev/hybrev/UserRevocation" "revokedBy" "Ljava/lang/String;" .null := D40 (Or.inr (wd47 hw)) (ty := (.object "java/lang/String")) (by decide)
  refine o_dup X40 hx (hb hby at_43) rfl rfl ?_
  refine o_aload X40 hx (hb hby at_44) rfl rfl rfl ?_
  refine o_iload X40 hx (hb hby at_46) rfl rfl ?_
  refine o_static X40 hx hZ hown (wd29 hw) (wd30 hw) (by decide) (rm6 l Z a0 hw p6 en0 en1 en2 en3 en4 h40 n0 OE40 S_LOGOUT (ren0) S_PASSWORD_CHANGE (ren1) S_COMPROMISED (ren2) S_ADMIN_REVOKE (ren3) S_UNKNOWN (ren4)) (wd32 hw) (wd31 hw) e40 (by rw [hml]; rfl) (argsL := [(.int p6)]) (rest := [(.ref b_7), (.ref b40), (.ref b40)]) (W := 3) pd4 rfl rfl rfl rfl (hb hby at_48) (by decide) (by decide) (by decide) (by decide) (cells' := 5) (slots' := 14) rfl rfl rfl fun v48 T48 h48 Lc48 X48 e48 hq48 => ?_
  obtain ⟨u_48, rfl, N48q, K48, ru_48⟩ := hq48
  have N48 := Fr.app N38 N48q
  have e48_2 : T48.heap = h40 := e48.trans K48
  show Goes p.tables e below (Ends s (Q0 Z q0 q2 q4 p6 p7 cs en0 en1 en2 en3 en4 h0 n0) room_1.cells room_1.slots) (T48.setTop (mkF m 51 #[.val (.long q0), .second, .val (.long q2), .second, .val (.long q4), .second, .val (.int p6), .val (.int p7), .val (.ref b_7), .val z38, .unset, .unset, .unset, .unset, .unset, .unset, .unset, .unset] [u_48, (.ref b_7), (.ref b40), (.ref b40)]))
  refine o_lloadN X48 hx (hb hby at_51) rfl rfl ?_
  refine o_aload X48 hx (hb hby at_52) rfl r_z38 rfl ?_
  refine o_special X48 hx hZ rfl rfl hown (wd36 hw) (wd37 hw) (by decide) (a := b40) (rm7 l Z a0 hw b40 ((.ref b_7)) u_48 q0 z38 h40 n0 OE40 A40 Fb40_userId Fb40_reason Fb40_cutoff Fb40_revokedBy n_b40 (rfl) (ru_48) (r_z38)) (wd38 hw) (wd28 hw) e48_2 (by rw [hml]; rfl) (argsL := [(.ref b_7), u_48, (.long q0), z38]) (rest := [(.ref b40)]) (W := 1) pd5 rfl rfl rfl rfl (hb hby at_54) (by decide) (by decide) (by decide) (by decide) (cells' := 5) (slots' := 14) rfl rfl rfl fun v54 T54 h54 Lc54 X54 e54 hq54 => ?_
  obtain ⟨rfl, N54q, K54, qE_54, qF_54⟩ := hq54
  have N54 := Fr.app N48 N54q
  have KK54_h0 : Keep h0 h54 [] := KE40_h0.trans K54 (allS (Or.inr s_b40_h0) all0)
  have OK54 : Old Z n0 h54 := OE40.keep K54 (allS n_b40 all0)
  show Goes p.tables e below (Ends s (Q0 Z q0 q2 q4 p6 p7 cs en0 en1 en2 en3 en4 h0 n0) room_1.cells room_1.slots) (T54.setTop (mkF m 57 #[.val (.long q0), .second, .val (.long q2), .second, .val (.long q4), .second, .val (.int p6), .val (.int p7), .val (.ref b_7), .val z38, .unset, .unset, .unset, .unset, .unset, .unset, .unset, .unset] [(.ref b40)]))
  refine o_astore X54 hx (hb hby at_57) rfl (L' := #[.val (.long q0), .second, .val (.long q2), .second, .val (.long q4), .second, .val (.int p6), .val (.int p7), .val (.ref b_7), .val z38, .val (.ref b40), .unset, .unset, .unset, .unset, .unset, .unset, .unset]) rfl rfl ?_
  refine o_aload X54 hx (hb hby at_59) rfl rfl rfl ?_
  refine o_lloadN X54 hx (hb hby at_61) rfl rfl ?_
  refine o_virtual X54 hx hZ (C := "com/example/hybrev/hybrev/UserRevocation") hown (wd48 hw) (wd49 hw) (notFace_of_selects (args := #[]) (mvT hZ (wd51 hw))) (wd51 hw) (wd50 hw) (by decide) qE_54 (rm8 l Z a0 hw b40 q0 q0 h54 n0 OK54 qF_54) (wd52 hw) (wd28 hw) e54 (by rw [hml]; rfl) (argsL := [(.long q0)]) (rest := []) (W := 0) pd6 rfl rfl rfl rfl (hb hby at_62) (by decide) (by decide) (by decide) (by decide) (cells' := 5) (slots' := 14) rfl rfl rfl fun v62 T62 h62 Lc62 X62 e62 hq62 => ?_
  obtain ⟨z_62, rfl, N62q, K62, hz_62⟩ := hq62
  have N62 := Fr.app N54 N62q
  have e62_2 : T62.heap = h54 := e62.trans K62
  show Goes p.tables e below (Ends s (Q0 Z q0 q2 q4 p6 p7 cs en0 en1 en2 en3 en4 h0 n0) room_1.cells room_1.slots) (T62.setTop (mkF m 65 #[.val (.long q0), .second, .val (.long q2), .second, .val (.long q4), .second, .val (.int p6), .val (.int p7), .val (.ref b_7), .val z38, .val (.ref b40), .unset, .unset, .unset, .unset, .unset, .unset, .unset] [(.int z_62)]))
  refine o_istore X62 hx (hb hby at_65) (L' := #[.val (.long q0), .second, .val (.long q2), .second, .val (.long q4), .second, .val (.int p6), .val (.int p7), .val (.ref b_7), .val z38, .val (.ref b40), .val (.int z_62), .unset, .unset, .unset, .unset, .unset, .unset]) rfl rfl ?_
  refine o_lloadN X62 hx (hb hby at_67) rfl rfl ?_
  refine Goes.on (fun _ k => X62.ldc2Long hx hown (mvT hZ (wd53 hw)) (g := (mkF m 68 #[.val (.long q0), .second, .val (.long q2), .second, .val (.long q4), .second, .val (.int p6), .val (.int p7), .val (.ref b_7), .val z38, .val (.ref b40), .val (.int z_62), .unset, .unset, .unset, .unset, .unset, .unset] [(.long q0)])) rfl (hb hby at_68) _ k) ?_
  show Goes p.tables e below (Ends s (Q0 Z q0 q2 q4 p6 p7 cs en0 en1 en2 en3 en4 h0 n0) room_1.cells room_1.slots) (T62.setTop (mkF m 71 #[.val (.long q0), .second, .val (.long q2), .second, .val (.long q4), .second, .val (.int p6), .val (.int p7), .val (.ref b_7), .val z38, .val (.ref b40), .val (.int z_62), .unset, .unset, .unset, .unset, .unset, .unset] [(.long (9223372036854775807 : Int64)), (.long q0)]))
  refine o_lcmp X62 hx (hb hby at_71) rfl ?_
  suffices J91 : ∀ (T91 : State) (l91 : List Loc) (X91 : Stand p l e room_1 s m #[(.long q0), (.long q2), (.long q4), (.int p6), (.int p7)] below meth c T91 l91 5 14) (e91 : T91.heap = h54) (N91 : Fr n0 l91) (hz91 : True), Goes p.tables e below (Ends s (Q0 Z q0 q2 q4 p6 p7 cs en0 en1 en2 en3 en4 h0 n0) room_1.cells room_1.slots) (T91.setTop (mkF m 91 #[.val (.long q0), .second, .val (.long q2), .second, .val (.long q4), .second, .val (.int p6), .val (.int p7), .val (.ref b_7), .val z38, .val (.ref b40), .val (.int z_62), .unset, .unset, .unset, .unset, .unset, .unset] [(.int (1 : Int32))])) by
    have KR72 : Keep h54 h54 [] := Keep.refl _ _
    by_cases hc72 : q0 = (9223372036854775807 : Int64)
    ·
      refine o_ifYes X62 hx (hb hby at_72) ((if0 _ _).trans (teq ((lw_eq _ _).mpr hc72)).1) (by decide) (pc' := 86) (by decide) ?_
      refine o_iconst X62 hx (hb hby at_86) (v := (1 : Int32)) rfl rfl ?_
      refine o_goto X62 hx (hb hby at_87) (by decide) (pc' := 91) (by decide) ?_
      exact J91 T62 _ X62 e62_2 N62 trivial
    ·
      refine o_ifNo X62 hx (hb hby at_72) ((if0 _ _).trans (feq (fun q => hc72 ((lw_eq _ _).mp q))).1) rfl ?_
      refine o_aload X62 hx (hb hby at_75) rfl rfl rfl ?_
      refine o_lloadN X62 hx (hb hby at_77) rfl rfl ?_
      refine o_lconst X62 hx (hb hby at_78) (v := (1 : Int64)) rfl rfl ?_
      refine o_ladd X62 hx (hb hby at_79) rfl ?_
      refine o_virtual X62 hx hZ (C := "com/example/hybrev/hybrev/UserRevocation") hown (wd48 hw) (wd49 hw) (notFace_of_selects (args := #[]) (mvT hZ (wd51 hw))) (wd51 hw) (wd50 hw) (by decide) qE_54 (rm8 l Z a0 hw b40 ((q0 + (1 : Int64))) q0 h54 n0 OK54 qF_54) (wd52 hw) (wd28 hw) e62_2 (by rw [hml]; rfl) (argsL := [(.long (q0 + (1 : Int64)))]) (rest := []) (W := 0) pd6 rfl rfl rfl rfl (hb hby at_80) (by decide) (by decide) (by decide) (by decide) (cells' := 5) (slots' := 14) rfl rfl rfl fun v80 T80 h80 Lc80 X80 e80 hq80 => ?_
      obtain ⟨z_80, rfl, N80q, K80, hz_80⟩ := hq80
      have N80 := Fr.app N62 N80q
      have e80_2 : T80.heap = h54 := e80.trans K80
      show Goes p.tables e below (Ends s (Q0 Z q0 q2 q4 p6 p7 cs en0 en1 en2 en3 en4 h0 n0) room_1.cells room_1.slots) (T80.setTop (mkF m 83 #[.val (.long q0), .second, .val (.long q2), .second, .val (.long q4), .second, .val (.int p6), .val (.int p7), .val (.ref b_7), .val z38, .val (.ref b40), .val (.int z_62), .unset, .unset, .unset, .unset, .unset, .unset] [(.int z_80)]))
      have hc83 : z_80 = (0 : Int32) := by rcases hz_80 with ⟨-, h⟩ | ⟨h, -⟩; exact absurd (own_next hc72) h; exact h
      refine o_ifNo X80 hx (hb hby at_83) ((if0 _ _).trans (teq hc83).2) rfl ?_
      refine o_iconst X80 hx (hb hby at_86) (v := (1 : Int32)) rfl rfl ?_
      refine o_goto X80 hx (hb hby at_87) (by decide) (pc' := 91) (by decide) ?_
      exact J91 T80 _ X80 e80_2 N80 trivial
  intro T91 l91 X91 e91 N91 hz91
  refine o_istore X91 hx (hb hby at_91) (L' := #[.val (.long q0), .second, .val (.long q2), .second, .val (.long q4), .second, .val (.int p6), .val (.int p7), .val (.ref b_7), .val z38, .val (.ref b40), .val (.int z_62), .val (.int (1 : Int32)), .unset, .unset, .unset, .unset, .unset]) rfl rfl ?_
  refine o_lloadN X91 hx (hb hby at_93) rfl rfl ?_
  refine o_lload X91 hx (hb hby at_94) rfl rfl ?_
  refine o_static X91 hx hZ hown (wd54 hw) (wd55 hw) (by decide) (rm9 l Z a0 hw q2 q4 h54 n0 OK54 ) (wd57 hw) (wd56 hw) e91 (by rw [hml]; rfl) (argsL := [(.long q2), (.long q4)]) (rest := []) (W := 0) pd7 rfl rfl rfl rfl (hb hby at_96) (by decide) (by decide) (by decide) (by decide) (cells' := 5) (slots' := 14) rfl rfl rfl fun v96 T96 h96 Lc96 X96 e96 hq96 => ?_
  obtain ⟨r_96, rfl, N96q, K96, hr_96⟩ := hq96
  have N96 := Fr.app N91 N96q
  have e96_2 : T96.heap = h54 := e96.trans K96
  show Goes p.tables e below (Ends s (Q0 Z q0 q2 q4 p6 p7 cs en0 en1 en2 en3 en4 h0 n0) room_1.cells room_1.slots) (T96.setTop (mkF m 99 #[.val (.long q0), .second, .val (.long q2), .second, .val (.long q4), .second, .val (.int p6), .val (.int p7), .val (.ref b_7), .val z38, .val (.ref b40), .val (.int z_62), .val (.int (1 : Int32)), .unset, .unset, .unset, .unset, .unset] [(.long r_96)]))
  refine o_lstore X96 hx (hb hby at_99) (L' := #[.val (.long q0), .second, .val (.long q2), .second, .val (.long q4), .second, .val (.int p6), .val (.int p7), .val (.ref b_7), .val z38, .val (.ref b40), .val (.int z_62), .val (.int (1 : Int32)), .val (.long r_96), .second, .unset, .unset, .unset]) rfl rfl ?_
  refine o_lloadN X96 hx (hb hby at_101) rfl rfl ?_
  refine o_lload X96 hx (hb hby at_102) rfl rfl ?_
  refine o_static X96 hx hZ hown (wd58 hw) (wd59 hw) (by decide) (rm10 l Z a0 hw q2 q4 h54 n0 OK54 ) (wd60 hw) (wd56 hw) e96_2 (by rw [hml]; rfl) (argsL := [(.long q2), (.long q4)]) (rest := []) (W := 0) pd7 rfl rfl rfl rfl (hb hby at_104) (by decide) (by decide) (by decide) (by decide) (cells' := 5) (slots' := 14) rfl rfl rfl fun v104 T104 h104 Lc104 X104 e104 hq104 => ?_
  obtain ⟨r_104, rfl, N104q, K104, hr_104⟩ := hq104
  have N104 := Fr.app N96 N104q
  have e104_2 : T104.heap = h54 := e104.trans K104
  show Goes p.tables e below (Ends s (Q0 Z q0 q2 q4 p6 p7 cs en0 en1 en2 en3 en4 h0 n0) room_1.cells room_1.slots) (T104.setTop (mkF m 107 #[.val (.long q0), .second, .val (.long q2), .second, .val (.long q4), .second, .val (.int p6), .val (.int p7), .val (.ref b_7), .val z38, .val (.ref b40), .val (.int z_62), .val (.int (1 : Int32)), .val (.long r_96), .second, .unset, .unset, .unset] [(.long r_104)]))
  refine o_lstore X104 hx (hb hby at_107) (L' := #[.val (.long q0), .second, .val (.long q2), .second, .val (.long q4), .second, .val (.int p6), .val (.int p7), .val (.ref b_7), .val z38, .val (.ref b40), .val (.int z_62), .val (.int (1 : Int32)), .val (.long r_96), .second, .val (.long r_104), .second, .unset]) rfl rfl ?_
  refine o_aload X104 hx (hb hby at_109) rfl rfl rfl ?_
  refine o_lload X104 hx (hb hby at_111) rfl rfl ?_
  refine o_virtual X104 hx hZ (C := "com/example/hybrev/hybrev/UserRevocation") hown (wd48 hw) (wd49 hw) (notFace_of_selects (args := #[]) (mvT hZ (wd51 hw))) (wd51 hw) (wd50 hw) (by decide) qE_54 (rm8 l Z a0 hw b40 r_104 q0 h54 n0 OK54 qF_54) (wd52 hw) (wd28 hw) e104_2 (by rw [hml]; rfl) (argsL := [(.long r_104)]) (rest := []) (W := 0) pd6 rfl rfl rfl rfl (hb hby at_113) (by decide) (by decide) (by decide) (by decide) (cells' := 5) (slots' := 14) rfl rfl rfl fun v113 T113 h113 Lc113 X113 e113 hq113 => ?_
  obtain ⟨z_113, rfl, N113q, K113, hz_113⟩ := hq113
  have N113 := Fr.app N104 N113q
  have e113_2 : T113.heap = h54 := e113.trans K113
  show Goes p.tables e below (Ends s (Q0 Z q0 q2 q4 p6 p7 cs en0 en1 en2 en3 en4 h0 n0) room_1.cells room_1.slots) (T113.setTop (mkF m 116 #[.val (.long q0), .second, .val (.long q2), .second, .val (.long q4), .second, .val (.int p6), .val (.int p7), .val (.ref b_7), .val z38, .val (.ref b40), .val (.int z_62), .val (.int (1 : Int32)), .val (.long r_96), .second, .val (.long r_104), .second, .unset] [(.int z_113)]))
  suffices J134 : ∀ (T134 : State) (l134 : List Loc) (X134 : Stand p l e room_1 s m #[(.long q0), (.long q2), (.long q4), (.int p6), (.int p7)] below meth c T134 l134 5 14) (e134 : T134.heap = h54) (N134 : Fr n0 l134) (hz134 : True), Goes p.tables e below (Ends s (Q0 Z q0 q2 q4 p6 p7 cs en0 en1 en2 en3 en4 h0 n0) room_1.cells room_1.slots) (T134.setTop (mkF m 134 #[.val (.long q0), .second, .val (.long q2), .second, .val (.long q4), .second, .val (.int p6), .val (.int p7), .val (.ref b_7), .val z38, .val (.ref b40), .val (.int z_62), .val (.int (1 : Int32)), .val (.long r_96), .second, .val (.long r_104), .second, .unset] [(.int (1 : Int32))])) by
    have KR116 : Keep h54 h54 [] := Keep.refl _ _
    by_cases hc116 : z_113 = (0 : Int32)
    ·
      refine o_ifYes X113 hx (hb hby at_116) ((if0 _ _).trans (teq hc116).1) (by decide) (pc' := 129) (by decide) ?_
      refine o_iconst X113 hx (hb hby at_129) (v := (1 : Int32)) rfl rfl ?_
      refine o_goto X113 hx (hb hby at_130) (by decide) (pc' := 134) (by decide) ?_
      exact J134 T113 _ X113 e113_2 N113 trivial
    ·
      refine o_ifNo X113 hx (hb hby at_116) ((if0 _ _).trans (feq hc116).1) rfl ?_
      refine o_aload X113 hx (hb hby at_119) rfl rfl rfl ?_
      refine o_lload X113 hx (hb hby at_121) rfl rfl ?_
      refine o_virtual X113 hx hZ (C := "com/example/hybrev/hybrev/UserRevocation") hown (wd48 hw) (wd49 hw) (notFace_of_selects (args := #[]) (mvT hZ (wd51 hw))) (wd51 hw) (wd50 hw) (by decide) qE_54 (rm8 l Z a0 hw b40 r_96 q0 h54 n0 OK54 qF_54) (wd52 hw) (wd28 hw) e113_2 (by rw [hml]; rfl) (argsL := [(.long r_96)]) (rest := []) (W := 0) pd6 rfl rfl rfl rfl (hb hby at_123) (by decide) (by decide) (by decide) (by decide) (cells' := 5) (slots' := 14) rfl rfl rfl fun v123 T123 h123 Lc123 X123 e123 hq123 => ?_
      obtain ⟨z_123, rfl, N123q, K123, hz_123⟩ := hq123
      have N123 := Fr.app N113 N123q
      have e123_2 : T123.heap = h54 := e123.trans K123
      show Goes p.tables e below (Ends s (Q0 Z q0 q2 q4 p6 p7 cs en0 en1 en2 en3 en4 h0 n0) room_1.cells room_1.slots) (T123.setTop (mkF m 126 #[.val (.long q0), .second, .val (.long q2), .second, .val (.long q4), .second, .val (.int p6), .val (.int p7), .val (.ref b_7), .val z38, .val (.ref b40), .val (.int z_62), .val (.int (1 : Int32)), .val (.long r_96), .second, .val (.long r_104), .second, .unset] [(.int z_123)]))
      have hc126 : ¬ (z_123 = (0 : Int32)) := by
        rcases hz_113 with ⟨-, h⟩ | ⟨h, -⟩
        · rcases hz_123 with ⟨h1, -⟩ | ⟨-, h2⟩
          · rw [h1]; decide
          · exact absurd h2 (own_min hr_96 hr_104 h)
        · exact absurd h hc116
      refine o_ifNo X123 hx (hb hby at_126) ((if0 _ _).trans (feq hc126).1) rfl ?_
      refine o_iconst X123 hx (hb hby at_129) (v := (1 : Int32)) rfl rfl ?_
      refine o_goto X123 hx (hb hby at_130) (by decide) (pc' := 134) (by decide) ?_
      exact J134 T123 _ X123 e123_2 N123 trivial
  intro T134 l134 X134 e134 N134 hz134
  refine o_istore X134 hx (hb hby at_134) (L' := #[.val (.long q0), .second, .val (.long q2), .second, .val (.long q4), .second, .val (.int p6), .val (.int p7), .val (.ref b_7), .val z38, .val (.ref b40), .val (.int z_62), .val (.int (1 : Int32)), .val (.long r_96), .second, .val (.long r_104), .second, .val (.int (1 : Int32))]) rfl rfl ?_
  refine o_iload X134 hx (hb hby at_136) rfl rfl ?_
  have hc138 : ¬ (z_62 = (0 : Int32)) := by rcases hz_62 with ⟨h, -⟩ | ⟨-, h⟩; rw [h]; decide; exact (Int64.lt_irrefl h).elim
  refine o_ifNo X134 hx (hb hby at_138) ((if0 _ _).trans (feq hc138).1) rfl ?_
  refine o_iload X134 hx (hb hby at_141) rfl rfl ?_
  refine o_ifNo X134 hx (hb hby at_143) ((if0 _ _).trans (feq (by decide)).1) rfl ?_
  refine o_iload X134 hx (hb hby at_146) rfl rfl ?_
  refine o_ifNo X134 hx (hb hby at_148) ((if0 _ _).trans (feq (by decide)).1) rfl ?_
  refine o_iconst X134 hx (hb hby at_151) (v := (1 : Int32)) rfl rfl ?_
  refine o_goto X134 hx (hb hby at_152) (by decide) (pc' := 156) (by decide) ?_
  exact o_ret X134 hx hlk (t := .boolean) hret rfl (Or.inl ⟨rfl, by decide, _, rfl⟩) (hb hby at_156) (by decide) (by decide) e134 ⟨rfl, N134, KK54_h0⟩
set_option maxRecDepth 65536 in
set_option maxHeartbeats 40000000 in
theorem comes_1 {Post : Tables → Env → Array Value → State → Outcome → State → Prop} (hpost : ∀ tb e args s v u, (limb_1_1.after args s (.returned v) u = true ∧ limb_1_2.after args s (.returned v) u = true ∧ True) → FrameEnd s (.returned v) u (Jvm.fieldLocs frame_1_writes args s ++ Jvm.arrayLocs frame_1_arrays args s ++ Jvm.staticLocs frame_1_statics s) 24 128 → Post tb e args s (.returned v) u) :
    ArmFor flags0 classFile x code maxLocals ret World_1 tables_1 room_1 Calls_1 rest_1 Pre_1 Post := by
  intro l hfl _ _ p e ha hc hk s m args below hf hA hF happ hP
  obtain ⟨hcalls, hrest, hpre⟩ := hP
  obtain ⟨-, -, -, hnamed, -, -, -, hat⟩ := (Spec.applies_iff hf).mp happ
  obtain ⟨hg, hn⟩ := and_e (Cond.before_iff.mp (show (Jvm.Cond.and given_1 narrow_1).before args s = true from hpre))
  obtain ⟨u1a, u1b⟩ := and_e hg
  obtain ⟨u2a, u2b⟩ := and_e u1b
  obtain ⟨u3a, u3b⟩ := and_e u2b
  obtain ⟨u4a, u4b⟩ := and_e u3b
  obtain ⟨u5a, u5b⟩ := and_e u4b
  obtain ⟨u6a, u6b⟩ := and_e hn
  obtain ⟨u7a, u7b⟩ := and_e u6b
  obtain ⟨u8a, u8b⟩ := and_e u7b
  obtain ⟨u9a, u9b⟩ := and_e u8b
  obtain ⟨w0, w1, w2, w3, w4, rfl⟩ : ∃ w0 w1 w2 w3 w4 : Value, args = #[w0, w1, w2, w3, w4] := by
    have hs : args.size = 5 := by simpa [Cond.value, given_1] using u1a
    obtain ⟨L⟩ := args
    match L, hs with
    | [w0, w1, w2, w3, w4], _ => exact ⟨w0, w1, w2, w3, w4, rfl⟩
  have hw := fun d (hd : d ∈ tables_1) => atoms_spec (ws := Jvm.Cond.code x code maxLocals ret :: tables_1) hat d (List.mem_cons_of_mem _ hd)
  have hfit : Fit s := fun {y c} hc i hi => by
    obtain ⟨ha, rfl⟩ := Array.getElem?_eq_some_iff.mp hc
    have q := List.all_eq_true.mp ((Array.all_eq_true_iff_forall_mem.mp hF) _ (Array.getElem_mem ha)) i (List.mem_range.mpr hi)
    simpa [Array.getElem?_eq_getElem hi] using q
  obtain ⟨hsets, hown0⟩ := atoms_of _ (rest_1_c_eq ▸ (show rest_1_c.before _ s = true from hrest))
  obtain ⟨i0, ei0⟩ := isL_v u2a
  obtain rfl : w0 = (.long i0) := Option.some.inj ei0
  obtain ⟨i1, ei1⟩ := isL_v u3a
  obtain rfl : w1 = (.long i1) := Option.some.inj ei1
  obtain ⟨i2, ei2⟩ := isL_v u4a
  obtain rfl : w2 = (.long i2) := Option.some.inj ei2
  obtain ⟨i3, ei3⟩ := is_v u5a
  obtain rfl : w3 = (.int i3) := Option.some.inj ei3
  obtain ⟨i4, ei4⟩ := is_v u5b
  obtain rfl : w4 = (.int i4) := Option.some.inj ei4
  obtain ⟨cs0, ecs⟩ := is_v (Cond.before_iff.mp (hsets _ (List.mem_of_getElem? (i := 1) rfl)))
  have Scs : Sta s s.heap "java/lang/String" "COMPACT_STRINGS" "Z" (.int cs0) := Sta.start ecs (Or.inl (hsets _ (List.mem_of_getElem? (i := 0) rfl)))
  have hcs0 : ¬ (cs0 = (0 : Int32)) := gotF (Cond.eq_ints ecs (Term.int_eval (0))) (not_v (Cond.before_iff.mp (hsets _ (List.mem_of_getElem? (i := 2) rfl))))
  obtain ⟨v0, ev_v0, ft_v0⟩ := static_fit (ty := .object "com/example/hybrev/hybrev/Reason") hfit (wd64 hw) (by decide)
  have S_v0 : Sta s s.heap "com/example/hybrev/hybrev/Reason" "LOGOUT" "Lcom/example/hybrev/hybrev/Reason;" v0 := Sta.start ev_v0 (Or.inr ⟨(wd34 hw), (wd64 hw)⟩)
  have r_v0 : v0.isRef = true := fit_R ft_v0 rfl
  obtain ⟨v1, ev_v1, ft_v1⟩ := static_fit (ty := .object "com/example/hybrev/hybrev/Reason") hfit (wd62 hw) (by decide)
  have S_v1 : Sta s s.heap "com/example/hybrev/hybrev/Reason" "PASSWORD_CHANGE" "Lcom/example/hybrev/hybrev/Reason;" v1 := Sta.start ev_v1 (Or.inr ⟨(wd34 hw), (wd62 hw)⟩)
  have r_v1 : v1.isRef = true := fit_R ft_v1 rfl
  obtain ⟨v2, ev_v2, ft_v2⟩ := static_fit (ty := .object "com/example/hybrev/hybrev/Reason") hfit (wd35 hw) (by decide)
  have S_v2 : Sta s s.heap "com/example/hybrev/hybrev/Reason" "COMPROMISED" "Lcom/example/hybrev/hybrev/Reason;" v2 := Sta.start ev_v2 (Or.inr ⟨(wd34 hw), (wd35 hw)⟩)
  have r_v2 : v2.isRef = true := fit_R ft_v2 rfl
  obtain ⟨v3, ev_v3, ft_v3⟩ := static_fit (ty := .object "com/example/hybrev/hybrev/Reason") hfit (wd66 hw) (by decide)
  have S_v3 : Sta s s.heap "com/example/hybrev/hybrev/Reason" "ADMIN_REVOKE" "Lcom/example/hybrev/hybrev/Reason;" v3 := Sta.start ev_v3 (Or.inr ⟨(wd34 hw), (wd66 hw)⟩)
  have r_v3 : v3.isRef = true := fit_R ft_v3 rfl
  obtain ⟨v4, ev_v4, ft_v4⟩ := static_fit (ty := .object "com/example/hybrev/hybrev/Reason") hfit (wd68 hw) (by decide)
  have S_v4 : Sta s s.heap "com/example/hybrev/hybrev/Reason" "UNKNOWN" "Lcom/example/hybrev/hybrev/Reason;" v4 := Sta.start ev_v4 (Or.inr ⟨(wd34 hw), (wd68 hw)⟩)
  have r_v4 : v4.isRef = true := fit_R ft_v4 rfl
  obtain ⟨n, o, h1, h2, h3, _, L, rfl, ⟨rfl, N, -⟩, hq⟩ := rm0 l s _ hw tables_1 i0 i1 i2 i3 i4 cs0 v0 v1 v2 v3 v4 s.heap s.heap.size (Old.start s) Scs hcs0 S_v0 r_v0 S_v1 r_v1 S_v2 r_v2 S_v3 r_v3 S_v4 r_v4 p e ha hc hk s m _ below hf ((Spec.applies_iff_loose hf).mp happ).1 ⟨rfl, State.Warmed39.refl s, rfl⟩ trivial
  refine ⟨n, _, h1, h2, h3, hpost _ _ _ _ _ _ ⟨Cond.after_iff.mpr rfl, Cond.after_iff.mpr (eq_i res_at (Term.int_eval (1)) rfl), trivial⟩ ⟨hq.1, hq.2.1, (hq.2.2.sift fun y hy => Or.inr (N y hy)).mono (by decide) (by decide)⟩⟩
theorem main_1_1 : Claimed_1_1 := comes_1 fun _ _ _ _ _ _ h hF => ⟨h.1, hF⟩
theorem main_1_2 : Claimed_1_2 := comes_1 fun _ _ _ _ _ _ h hF => ⟨h.2.1, hF⟩
end Jvm.Pilot.@@N@@
namespace Jvm.Pilot.@@N@@
open Jvm Jvm.ClassFile Sem Op Lib Jvm.Free Jvm.Stand Jvm.Pilot.@@N@@.Jvm.D
/-! MADE BY PROGRAM (witnessworld.py) out of the Statement's table words and the real class files: 20 classes; the members and pool entries that the words name. The judged class is class 1, her method 2. -/
namespace start1
open Jvm.ClassFile
def u (s : String) : CpInfo := .utf8 (stringToUtf16 s)
/-- a pool by its gaps: so many unusable entries, then the entry; so many at the end -/
def gap : Nat → List CpInfo → List CpInfo
  | 0, r => r
  | n + 1, r => .unusable :: gap n r
def poolList (es : List (Nat × CpInfo)) (last : Nat) : List CpInfo := es.foldr (fun e r => gap e.1 (e.2 :: r)) (gap last [])
def pool (es : List (Nat × CpInfo)) (last : Nat) : Array CpInfo := ⟨poolList es last⟩
def fileOf (pool : Array CpInfo) (this : Nat) (attrs : Array Attribute := #[]) (ms : Array MethodInfo := #[]) (fl : Nat := 33) (sup : Nat := 0) (ifs : Array Nat := #[]) (fds : Array FieldInfo := #[]) : ClassFile where
  minorVersion := 0
  majorVersion := 65
  constantPool := pool
  accessFlags := fl
  thisClass := this
  superClass := sup
  interfaces := ifs
  fields := fds
  methods := ms
  attributes := attrs
def plain (name : String) (sup : Option ClassId) : Class where
  name := name
  kind := .ordinary
  loader := none
  accessFlags := 33
  super := sup
  interfaces := #[]
  cf := none
  fields := #[]
  methods := #[]
  instanceTypes := #[]
  staticTypes := #[]
  resolved := #[]
  callSites := []
  init := .initialized
  statics := none
  mirror := none

def pool0 : Array CpInfo := pool [(5, u "<init>"), (0, u "()V"), (1, .class_ 10), (1, u "java/lang/Object")] 113

def k0c0 : Code := { maxStack := 0, maxLocals := 1, code := object_method_1_code, exceptionTable := #[], attributes := #[] }
def k0m0 : Method := { name := "<init>", desc := "()V", sig := { parameters := [], returnType := none }, accessFlags := 1, code := some k0c0 }
/-- java/lang/Object -/
def k0 : Class := { plain "java/lang/Object" none with
  accessFlags := 33
  interfaces := #[]
  cf := some (fileOf pool0 8 #[] #[{ accessFlags := 1, nameIndex := 5, descriptorIndex := 6, attributes := #[] }] 33 0 #[] #[])
  fields := #[]
  methods := #[k0m0]
  instanceTypes := #[]
  staticTypes := #[]
  resolved := Array.replicate 124 none
  statics := none }

def pool1 : Array CpInfo := pool [(2, .class_ 4), (1, u "java/lang/Object"), (0, u "<init>"), (0, u "()V"), (0, .fieldref 8 9), (0, .class_ 10), (0, .nameAndType 11 12), (0, u "com/example/hybrev/hybrev/Reason"), (0, u "LOGOUT"), (0, u "Lcom/example/hybrev/hybrev/Reason;"), (0, .fieldref 8 14), (0, .nameAndType 15 12), (0, u "PASSWORD_CHANGE"), (0, .fieldref 8 17), (0, .nameAndType 18 12), (0, u "COMPROMISED"), (0, .fieldref 8 20), (0, .nameAndType 21 12), (0, u "ADMIN_REVOKE"), (0, .fieldref 8 23), (0, .nameAndType 24 12), (0, u "UNKNOWN"), (0, .methodref 26 27), (0, .class_ 28), (0, .nameAndType 29 30), (0, u "java/lang/String"), (0, u "valueOf"), (0, u "(C)Ljava/lang/String;"), (0, .class_ 32), (0, u "com/example/hybrev/hybrev/UserRevocation"), (0, .methodref 34 35), (0, .class_ 36), (0, .nameAndType 37 38), (0, u "com/example/hybrev/hybrev/UserRevocationRevokesPinLaw"), (0, u "pick"), (0, u "(I)Lcom/example/hybrev/hybrev/Reason;"), (0, .methodref 31 40), (0, .nameAndType 5 41), (0, u "(Ljava/lang/String;Lcom/example/hybrev/hybrev/Reason;JLjava/lang/String;)V"), (0, .methodref 31 43), (0, .nameAndType 44 45), (0, u "revokes"), (0, u "(J)Z"), (2, .long 9223372036854775807), (1, .methodref 51 52), (0, .class_ 53), (0, .nameAndType 54 55), (0, u "java/lang/Math"), (0, u "min"), (0, u "(JJ)J"), (0, .methodref 51 57), (0, .nameAndType 58 55), (0, u "max"), (3, u "law"), (0, u "(JJJII)Z")] 2

def k1m0 : Method := { name := "<init>", desc := "()V", sig := { parameters := [], returnType := none }, accessFlags := 1, code := none }
def k1c1 : Code := { maxStack := 2, maxLocals := 2, code := method_2_code, exceptionTable := #[], attributes := #[] }
def k1m1 : Method := { name := "pick", desc := "(I)Lcom/example/hybrev/hybrev/Reason;", sig := { parameters := [.int], returnType := some (.object "com/example/hybrev/hybrev/Reason") }, accessFlags := 10, code := some k1c1 }
def k1c2 : Code := { maxStack := 7, maxLocals := 18, code := code, exceptionTable := #[], attributes := #[] }
def k1m2 : Method := { name := "law", desc := "(JJJII)Z", sig := { parameters := [.long, .long, .long, .int, .int], returnType := some .boolean }, accessFlags := 9, code := some k1c2 }
/-- com/example/hybrev/hybrev/UserRevocationRevokesPinLaw -/
def k1 : Class := { plain "com/example/hybrev/hybrev/UserRevocationRevokesPinLaw" (some 0) with
  accessFlags := 49
  interfaces := #[]
  cf := some (fileOf pool1 34 #[] #[{ accessFlags := 1, nameIndex := 5, descriptorIndex := 6, attributes := #[] }, { accessFlags := 10, nameIndex := 37, descriptorIndex := 38, attributes := #[] }, { accessFlags := 9, nameIndex := 62, descriptorIndex := 63, attributes := #[] }] 49 2 #[] #[])
  fields := #[]
  methods := #[k1m0, k1m1, k1m2]
  instanceTypes := #[]
  staticTypes := #[]
  resolved := Array.replicate 66 none
  statics := none }

def pool2 : Array CpInfo := pool [(1, .class_ 2), (0, u "java/io/Serializable"), (0, .class_ 4), (0, u "java/lang/Object")] 2

/-- java/io/Serializable -/
def k2 : Class := { plain "java/io/Serializable" (some 0) with
  accessFlags := 1537
  interfaces := #[]
  cf := some (fileOf pool2 1 #[] #[] 1537 3 #[] #[])
  fields := #[]
  methods := #[]
  instanceTypes := #[]
  staticTypes := #[]
  resolved := Array.replicate 7 none
  statics := none }

def pool3 : Array CpInfo := pool [(1, .class_ 2), (0, u "java/lang/Comparable"), (0, .class_ 4), (0, u "java/lang/Object")] 7

/-- java/lang/Comparable -/
def k3 : Class := { plain "java/lang/Comparable" (some 0) with
  accessFlags := 1537
  interfaces := #[]
  cf := some (fileOf pool3 1 #[] #[] 1537 3 #[] #[])
  fields := #[]
  methods := #[]
  instanceTypes := #[]
  staticTypes := #[]
  resolved := Array.replicate 12 none
  statics := none }

def pool4 : Array CpInfo := pool [(2, .class_ 4), (1, u "java/lang/CharSequence"), (42, .class_ 48), (0, u "java/lang/CharSequence$1CodePointIterator"), (10, .class_ 60), (0, u "java/lang/CharSequence$1CharIterator"), (5, .class_ 67), (0, u "java/lang/Object")] 63

/-- java/lang/CharSequence -/
def k4 : Class := { plain "java/lang/CharSequence" (some 0) with
  accessFlags := 1537
  interfaces := #[]
  cf := some (fileOf pool4 2 #[.nestMembers #[47, 59]] #[] 1537 66 #[] #[])
  fields := #[]
  methods := #[]
  instanceTypes := #[]
  staticTypes := #[]
  resolved := Array.replicate 131 none
  statics := none }

def pool5 : Array CpInfo := pool [(1, .class_ 2), (0, u "java/lang/constant/Constable"), (0, .class_ 4), (0, u "java/lang/Object")] 6

/-- java/lang/constant/Constable -/
def k5 : Class := { plain "java/lang/constant/Constable" (some 0) with
  accessFlags := 1537
  interfaces := #[]
  cf := some (fileOf pool5 1 #[] #[] 1537 3 #[] #[])
  fields := #[]
  methods := #[]
  instanceTypes := #[]
  staticTypes := #[]
  resolved := Array.replicate 11 none
  statics := none }

def pool6 : Array CpInfo := pool [(1, .class_ 2), (0, u "java/lang/constant/ConstantDesc"), (0, .class_ 4), (0, u "java/lang/Object")] 32

/-- java/lang/constant/ConstantDesc -/
def k6 : Class := { plain "java/lang/constant/ConstantDesc" (some 0) with
  accessFlags := 1537
  interfaces := #[]
  cf := some (fileOf pool6 1 #[] #[] 1537 3 #[] #[])
  fields := #[]
  methods := #[]
  instanceTypes := #[]
  staticTypes := #[]
  resolved := Array.replicate 37 none
  statics := none }

def pool7 : Array CpInfo := pool [(1, .methodref 2 3), (0, .class_ 4), (0, .nameAndType 5 6), (0, u "java/lang/Object"), (0, u "<init>"), (0, u "()V"), (2, .fieldref 10 11), (0, .class_ 12), (0, .nameAndType 13 14), (0, u "java/lang/String"), (0, u "value"), (0, u "[B"), (0, .fieldref 10 16), (0, .nameAndType 17 18), (0, u "coder"), (0, u "B"), (2, u "hash"), (0, u "I"), (2, u "hashIsZero"), (0, u "Z"), (11, .fieldref 10 39), (0, .nameAndType 40 26), (0, u "COMPACT_STRINGS"), (12, u "toBytes"), (53, .class_ 109), (1, u "java/lang/StringLatin1"), (99, .methodref 10 210), (0, .nameAndType 5 211), (0, u "([BB)V"), (157, u "(C)Z"), (205, .class_ 576), (0, u "java/lang/CharSequence"), (22, u "CASE_INSENSITIVE_ORDER"), (0, u "Ljava/util/Comparator;"), (181, u "valueOf"), (0, u "(C)Ljava/lang/String;"), (231, .methodref 107 1016), (0, .nameAndType 1017 369), (0, u "canEncode"), (0, .methodref 107 1019), (0, .nameAndType 53 1020), (0, u "(C)[B"), (80, u "serialPersistentFields"), (0, u "[Ljava/io/ObjectStreamField;"), (0, .class_ 1104), (0, u "java/lang/String$CaseInsensitiveComparator"), (1, .class_ 1107), (0, u "java/io/Serializable"), (0, .class_ 1109), (0, u "java/lang/Comparable"), (0, .class_ 1111), (0, u "java/lang/constant/Constable"), (0, .class_ 1113), (0, u "java/lang/constant/ConstantDesc"), (2, u "serialVersionUID"), (0, u "J"), (3, u "REPL"), (0, u "C"), (2, u "LATIN1"), (1, u "UTF16")] 323

def k7m0 : Method := { name := "<init>", desc := "()V", sig := { parameters := [], returnType := none }, accessFlags := 1, code := none }
def k7c1 : Code := { maxStack := 4, maxLocals := 1, code := jdk_42_method_139_code, exceptionTable := #[], attributes := #[] }
def k7m1 : Method := { name := "valueOf", desc := "(C)Ljava/lang/String;", sig := { parameters := [.char], returnType := some (.object "java/lang/String") }, accessFlags := 9, code := some k7c1 }
def k7c2 : Code := { maxStack := 2, maxLocals := 3, code := jdk_42_method_151_code, exceptionTable := #[], attributes := #[] }
def k7m2 : Method := { name := "<init>", desc := "([BB)V", sig := { parameters := [(.array .byte), .byte], returnType := none }, accessFlags := 0, code := some k7c2 }
/-- java/lang/String -/
def k7 : Class := { plain "java/lang/String" (some 0) with
  accessFlags := 49
  interfaces := #[2, 3, 4, 5, 6]
  cf := some (fileOf pool7 10 #[.nestMembers #[1103]] #[{ accessFlags := 1, nameIndex := 5, descriptorIndex := 6, attributes := #[] }, { accessFlags := 9, nameIndex := 782, descriptorIndex := 783, attributes := #[] }, { accessFlags := 0, nameIndex := 5, descriptorIndex := 211, attributes := #[] }] 49 2 #[1106, 1108, 575, 1110, 1112] #[{ accessFlags := 18, nameIndex := 13, descriptorIndex := 14, attributes := #[] }, { accessFlags := 18, nameIndex := 17, descriptorIndex := 18, attributes := #[] }, { accessFlags := 2, nameIndex := 21, descriptorIndex := 22, attributes := #[] }, { accessFlags := 2, nameIndex := 25, descriptorIndex := 26, attributes := #[] }, { accessFlags := 26, nameIndex := 1116, descriptorIndex := 1117, attributes := #[] }, { accessFlags := 24, nameIndex := 40, descriptorIndex := 26, attributes := #[] }, { accessFlags := 26, nameIndex := 1101, descriptorIndex := 1102, attributes := #[] }, { accessFlags := 26, nameIndex := 1121, descriptorIndex := 1122, attributes := #[] }, { accessFlags := 25, nameIndex := 599, descriptorIndex := 600, attributes := #[] }, { accessFlags := 24, nameIndex := 1125, descriptorIndex := 18, attributes := #[] }, { accessFlags := 24, nameIndex := 1127, descriptorIndex := 18, attributes := #[] }])
  fields := #[{ name := "value", type := (.array .byte), accessFlags := 18, slot := 0, constantValue := 0 }, { name := "coder", type := .byte, accessFlags := 18, slot := 1, constantValue := 0 }, { name := "hash", type := .int, accessFlags := 2, slot := 2, constantValue := 0 }, { name := "hashIsZero", type := .boolean, accessFlags := 2, slot := 3, constantValue := 0 }, { name := "serialVersionUID", type := .long, accessFlags := 26, slot := 0, constantValue := 0 }, { name := "COMPACT_STRINGS", type := .boolean, accessFlags := 24, slot := 1, constantValue := 0 }, { name := "serialPersistentFields", type := (.array (.object "java/io/ObjectStreamField")), accessFlags := 26, slot := 2, constantValue := 0 }, { name := "REPL", type := .char, accessFlags := 26, slot := 3, constantValue := 0 }, { name := "CASE_INSENSITIVE_ORDER", type := (.object "java/util/Comparator"), accessFlags := 25, slot := 4, constantValue := 0 }, { name := "LATIN1", type := .byte, accessFlags := 24, slot := 5, constantValue := 0 }, { name := "UTF16", type := .byte, accessFlags := 24, slot := 6, constantValue := 0 }]
  methods := #[k7m0, k7m1, k7m2]
  instanceTypes := #[(.array .byte), .byte, .int, .boolean]
  staticTypes := #[.long, .boolean, (.array (.object "java/io/ObjectStreamField")), .char, (.object "java/util/Comparator"), .byte, .byte]
  resolved := Array.replicate 1451 none
  statics := some 0 }

def pool8 : Array CpInfo := pool [(4, .class_ 6), (1, u "java/lang/Object"), (0, u "<init>"), (0, u "()V"), (5, .class_ 16), (1, u "java/lang/StringLatin1"), (73, u "canEncode"), (14, u "(C)Z"), (15, u "$assertionsDisabled"), (0, u "Z"), (98, .class_ 223), (1, u "java/lang/StringLatin1$LinesSpliterator"), (156, u "toBytes"), (1, u "(C)[B"), (7, .class_ 391), (0, u "java/lang/StringLatin1$CharsSpliterator")] 3

def k8m0 : Method := { name := "<init>", desc := "()V", sig := { parameters := [], returnType := none }, accessFlags := 0, code := none }
def k8c1 : Code := { maxStack := 2, maxLocals := 1, code := jdk_43_method_3_code, exceptionTable := #[], attributes := #[] }
def k8m1 : Method := { name := "canEncode", desc := "(C)Z", sig := { parameters := [.char], returnType := some .boolean }, accessFlags := 9, code := some k8c1 }
def k8c2 : Code := { maxStack := 4, maxLocals := 1, code := jdk_43_method_46_code, exceptionTable := #[], attributes := #[] }
def k8m2 : Method := { name := "toBytes", desc := "(C)[B", sig := { parameters := [.char], returnType := some (.array .byte) }, accessFlags := 9, code := some k8c2 }
/-- java/lang/StringLatin1 -/
def k8 : Class := { plain "java/lang/StringLatin1" (some 0) with
  accessFlags := 48
  interfaces := #[]
  cf := some (fileOf pool8 14 #[.nestMembers #[390, 221]] #[{ accessFlags := 0, nameIndex := 7, descriptorIndex := 8, attributes := #[] }, { accessFlags := 9, nameIndex := 90, descriptorIndex := 105, attributes := #[] }, { accessFlags := 9, nameIndex := 380, descriptorIndex := 382, attributes := #[] }] 48 4 #[] #[{ accessFlags := 4120, nameIndex := 121, descriptorIndex := 122, attributes := #[] }])
  fields := #[{ name := "$assertionsDisabled", type := .boolean, accessFlags := 4120, slot := 0, constantValue := 0 }]
  methods := #[k8m0, k8m1, k8m2]
  instanceTypes := #[]
  staticTypes := #[.boolean]
  resolved := Array.replicate 395 none
  statics := none }

def pool9 : Array CpInfo := pool [(1, .methodref 2 3), (0, .class_ 4), (0, .nameAndType 5 6), (0, u "java/lang/Object"), (0, u "<init>"), (0, u "()V"), (0, .fieldref 8 9), (0, .class_ 10), (0, .nameAndType 11 12), (0, u "com/example/hybrev/hybrev/UserRevocation"), (0, u "userId"), (0, u "Ljava/lang/String;"), (0, .fieldref 8 14), (0, .nameAndType 15 16), (0, u "reason"), (0, u "Lcom/example/hybrev/hybrev/Reason;"), (0, .fieldref 8 18), (0, .nameAndType 19 20), (0, u "cutoff"), (0, u "J"), (0, .fieldref 8 22), (0, .nameAndType 23 12), (0, u "revokedBy"), (0, u "(Ljava/lang/String;Lcom/example/hybrev/hybrev/Reason;JLjava/lang/String;)V"), (2, u "revokes"), (0, u "(J)Z")] 10

def k9c0 : Code := { maxStack := 3, maxLocals := 6, code := prog_25_method_1_code, exceptionTable := #[], attributes := #[] }
def k9m0 : Method := { name := "<init>", desc := "(Ljava/lang/String;Lcom/example/hybrev/hybrev/Reason;JLjava/lang/String;)V", sig := { parameters := [(.object "java/lang/String"), (.object "com/example/hybrev/hybrev/Reason"), .long, (.object "java/lang/String")], returnType := none }, accessFlags := 1, code := some k9c0 }
def k9c1 : Code := { maxStack := 4, maxLocals := 3, code := prog_25_method_2_code, exceptionTable := #[], attributes := #[] }
def k9m1 : Method := { name := "revokes", desc := "(J)Z", sig := { parameters := [.long], returnType := some .boolean }, accessFlags := 1, code := some k9c1 }
/-- com/example/hybrev/hybrev/UserRevocation -/
def k9 : Class := { plain "com/example/hybrev/hybrev/UserRevocation" (some 0) with
  accessFlags := 49
  interfaces := #[]
  cf := some (fileOf pool9 8 #[] #[{ accessFlags := 1, nameIndex := 5, descriptorIndex := 24, attributes := #[] }, { accessFlags := 1, nameIndex := 27, descriptorIndex := 28, attributes := #[] }] 49 2 #[] #[{ accessFlags := 18, nameIndex := 11, descriptorIndex := 12, attributes := #[] }, { accessFlags := 18, nameIndex := 15, descriptorIndex := 16, attributes := #[] }, { accessFlags := 18, nameIndex := 19, descriptorIndex := 20, attributes := #[] }, { accessFlags := 18, nameIndex := 23, descriptorIndex := 12, attributes := #[] }])
  fields := #[{ name := "userId", type := (.object "java/lang/String"), accessFlags := 18, slot := 0, constantValue := 0 }, { name := "reason", type := (.object "com/example/hybrev/hybrev/Reason"), accessFlags := 18, slot := 1, constantValue := 0 }, { name := "cutoff", type := .long, accessFlags := 18, slot := 2, constantValue := 0 }, { name := "revokedBy", type := (.object "java/lang/String"), accessFlags := 18, slot := 3, constantValue := 0 }]
  methods := #[k9m0, k9m1]
  instanceTypes := #[(.object "java/lang/String"), (.object "com/example/hybrev/hybrev/Reason"), .long, (.object "java/lang/String")]
  staticTypes := #[]
  resolved := Array.replicate 39 none
  statics := none }

def pool10 : Array CpInfo := pool [(2, .class_ 4), (1, u "java/lang/Enum"), (0, u "name"), (0, u "Ljava/lang/String;"), (2, u "ordinal"), (0, u "I"), (1, .class_ 14), (1, u "java/lang/Object"), (4, u "hash"), (86, .class_ 108), (1, u "java/lang/Enum$EnumDesc"), (2, .class_ 112), (0, u "java/lang/constant/Constable"), (0, .class_ 114), (0, u "java/lang/Comparable"), (0, .class_ 116), (0, u "java/io/Serializable")] 87

/-- java/lang/Enum -/
def k10 : Class := { plain "java/lang/Enum" (some 0) with
  accessFlags := 1057
  interfaces := #[5, 3, 2]
  cf := some (fileOf pool10 2 #[.nestMembers #[106]] #[] 1057 12 #[111, 113, 115] #[{ accessFlags := 18, nameIndex := 5, descriptorIndex := 6, attributes := #[] }, { accessFlags := 18, nameIndex := 9, descriptorIndex := 10, attributes := #[] }, { accessFlags := 2, nameIndex := 19, descriptorIndex := 10, attributes := #[] }])
  fields := #[{ name := "name", type := (.object "java/lang/String"), accessFlags := 18, slot := 0, constantValue := 0 }, { name := "ordinal", type := .int, accessFlags := 18, slot := 1, constantValue := 0 }, { name := "hash", type := .int, accessFlags := 2, slot := 2, constantValue := 0 }]
  methods := #[]
  instanceTypes := #[(.object "java/lang/String"), .int, .int]
  staticTypes := #[]
  resolved := Array.replicate 204 none
  statics := none }

def pool11 : Array CpInfo := pool [(1, .class_ 2), (0, u "com/example/hybrev/hybrev/Reason"), (2, u "LOGOUT"), (0, u "Lcom/example/hybrev/hybrev/Reason;"), (2, u "PASSWORD_CHANGE"), (2, u "COMPROMISED"), (2, u "ADMIN_REVOKE"), (2, u "UNKNOWN"), (2, u "$VALUES"), (0, u "[Lcom/example/hybrev/hybrev/Reason;"), (6, .class_ 31), (1, u "java/lang/Enum")] 56

/-- com/example/hybrev/hybrev/Reason -/
def k11 : Class := { plain "com/example/hybrev/hybrev/Reason" (some 10) with
  accessFlags := 16433
  interfaces := #[]
  cf := some (fileOf pool11 1 #[] #[] 16433 29 #[] #[{ accessFlags := 16409, nameIndex := 5, descriptorIndex := 6, attributes := #[] }, { accessFlags := 16409, nameIndex := 9, descriptorIndex := 6, attributes := #[] }, { accessFlags := 16409, nameIndex := 12, descriptorIndex := 6, attributes := #[] }, { accessFlags := 16409, nameIndex := 15, descriptorIndex := 6, attributes := #[] }, { accessFlags := 16409, nameIndex := 18, descriptorIndex := 6, attributes := #[] }, { accessFlags := 4122, nameIndex := 21, descriptorIndex := 22, attributes := #[] }])
  fields := #[{ name := "LOGOUT", type := (.object "com/example/hybrev/hybrev/Reason"), accessFlags := 16409, slot := 0, constantValue := 0 }, { name := "PASSWORD_CHANGE", type := (.object "com/example/hybrev/hybrev/Reason"), accessFlags := 16409, slot := 1, constantValue := 0 }, { name := "COMPROMISED", type := (.object "com/example/hybrev/hybrev/Reason"), accessFlags := 16409, slot := 2, constantValue := 0 }, { name := "ADMIN_REVOKE", type := (.object "com/example/hybrev/hybrev/Reason"), accessFlags := 16409, slot := 3, constantValue := 0 }, { name := "UNKNOWN", type := (.object "com/example/hybrev/hybrev/Reason"), accessFlags := 16409, slot := 4, constantValue := 0 }, { name := "$VALUES", type := (.array (.object "com/example/hybrev/hybrev/Reason")), accessFlags := 4122, slot := 5, constantValue := 0 }]
  methods := #[]
  instanceTypes := #[(.object "java/lang/String"), .int, .int]
  staticTypes := #[(.object "com/example/hybrev/hybrev/Reason"), (.object "com/example/hybrev/hybrev/Reason"), (.object "com/example/hybrev/hybrev/Reason"), (.object "com/example/hybrev/hybrev/Reason"), (.object "com/example/hybrev/hybrev/Reason"), (.array (.object "com/example/hybrev/hybrev/Reason"))]
  resolved := Array.replicate 88 none
  statics := some 1 }

def pool12 : Array CpInfo := pool [(1, .class_ 2), (0, u "java/lang/Math"), (1, .class_ 6), (1, u "java/lang/Object"), (0, u "<init>"), (0, u "()V"), (89, .class_ 100), (1, u "java/lang/Math$RandomNumberGeneratorHolder"), (20, u "(JJ)J"), (50, u "negativeZeroFloatBits"), (0, u "J"), (2, u "negativeZeroDoubleBits"), (21, u "max"), (2, u "min"), (43, u "$assertionsDisabled"), (0, u "Z"), (91, u "twoToTheDoubleScaleDown"), (0, u "D"), (4, u "twoToTheDoubleScaleUp"), (9, u "E"), (3, u "PI"), (2, u "TAU"), (2, u "DEGREES_TO_RADIANS"), (0, u "RADIANS_TO_DEGREES")] 94

def k12m0 : Method := { name := "<init>", desc := "()V", sig := { parameters := [], returnType := none }, accessFlags := 2, code := none }
def k12c1 : Code := { maxStack := 4, maxLocals := 4, code := jdk_29_method_66_code, exceptionTable := #[], attributes := #[] }
def k12m1 : Method := { name := "max", desc := "(JJ)J", sig := { parameters := [.long, .long], returnType := some .long }, accessFlags := 9, code := some k12c1 }
def k12c2 : Code := { maxStack := 4, maxLocals := 4, code := jdk_29_method_70_code, exceptionTable := #[], attributes := #[] }
def k12m2 : Method := { name := "min", desc := "(JJ)J", sig := { parameters := [.long, .long], returnType := some .long }, accessFlags := 9, code := some k12c2 }
/-- java/lang/Math -/
def k12 : Class := { plain "java/lang/Math" (some 0) with
  accessFlags := 49
  interfaces := #[]
  cf := some (fileOf pool12 1 #[.nestMembers #[98]] #[{ accessFlags := 2, nameIndex := 7, descriptorIndex := 8, attributes := #[] }, { accessFlags := 9, nameIndex := 198, descriptorIndex := 121, attributes := #[] }, { accessFlags := 9, nameIndex := 201, descriptorIndex := 121, attributes := #[] }] 49 4 #[] #[{ accessFlags := 25, nameIndex := 354, descriptorIndex := 339, attributes := #[] }, { accessFlags := 25, nameIndex := 358, descriptorIndex := 339, attributes := #[] }, { accessFlags := 25, nameIndex := 361, descriptorIndex := 339, attributes := #[] }, { accessFlags := 26, nameIndex := 364, descriptorIndex := 339, attributes := #[] }, { accessFlags := 26, nameIndex := 365, descriptorIndex := 339, attributes := #[] }, { accessFlags := 26, nameIndex := 172, descriptorIndex := 173, attributes := #[] }, { accessFlags := 26, nameIndex := 176, descriptorIndex := 173, attributes := #[] }, { accessFlags := 8, nameIndex := 344, descriptorIndex := 339, attributes := #[] }, { accessFlags := 8, nameIndex := 338, descriptorIndex := 339, attributes := #[] }, { accessFlags := 4120, nameIndex := 245, descriptorIndex := 246, attributes := #[] }])
  fields := #[{ name := "E", type := .double, accessFlags := 25, slot := 0, constantValue := 0 }, { name := "PI", type := .double, accessFlags := 25, slot := 1, constantValue := 0 }, { name := "TAU", type := .double, accessFlags := 25, slot := 2, constantValue := 0 }, { name := "DEGREES_TO_RADIANS", type := .double, accessFlags := 26, slot := 3, constantValue := 0 }, { name := "RADIANS_TO_DEGREES", type := .double, accessFlags := 26, slot := 4, constantValue := 0 }, { name := "negativeZeroFloatBits", type := .long, accessFlags := 26, slot := 5, constantValue := 0 }, { name := "negativeZeroDoubleBits", type := .long, accessFlags := 26, slot := 6, constantValue := 0 }, { name := "twoToTheDoubleScaleUp", type := .double, accessFlags := 8, slot := 7, constantValue := 0 }, { name := "twoToTheDoubleScaleDown", type := .double, accessFlags := 8, slot := 8, constantValue := 0 }, { name := "$assertionsDisabled", type := .boolean, accessFlags := 4120, slot := 9, constantValue := 0 }]
  methods := #[k12m0, k12m1, k12m2]
  instanceTypes := #[]
  staticTypes := #[.double, .double, .double, .double, .double, .long, .long, .double, .double, .boolean]
  resolved := Array.replicate 460 none
  statics := none }

def pool13 : Array CpInfo := pool [(2, .class_ 4), (1, u "java/lang/Object"), (0, u "<init>"), (0, u "()V"), (17, .class_ 26), (1, u "jdk/internal/util/Preconditions"), (28, .class_ 56), (0, u "jdk/internal/util/Preconditions$4"), (57, .class_ 115), (0, u "jdk/internal/util/Preconditions$1"), (7, u "SIOOBE_FORMATTER"), (0, u "Ljava/util/function/BiFunction;"), (0, .class_ 126), (0, u "jdk/internal/util/Preconditions$2"), (3, u "AIOOBE_FORMATTER"), (0, .class_ 132), (0, u "jdk/internal/util/Preconditions$3"), (3, u "IOOBE_FORMATTER")] 57

def k13m0 : Method := { name := "<init>", desc := "()V", sig := { parameters := [], returnType := none }, accessFlags := 1, code := none }
/-- jdk/internal/util/Preconditions -/
def k13 : Class := { plain "jdk/internal/util/Preconditions" (some 0) with
  accessFlags := 33
  interfaces := #[]
  cf := some (fileOf pool13 24 #[.nestMembers #[55, 131, 125, 114]] #[{ accessFlags := 1, nameIndex := 5, descriptorIndex := 6, attributes := #[] }] 33 2 #[] #[{ accessFlags := 25, nameIndex := 123, descriptorIndex := 124, attributes := #[] }, { accessFlags := 25, nameIndex := 130, descriptorIndex := 124, attributes := #[] }, { accessFlags := 25, nameIndex := 136, descriptorIndex := 124, attributes := #[] }])
  fields := #[{ name := "SIOOBE_FORMATTER", type := (.object "java/util/function/BiFunction"), accessFlags := 25, slot := 0, constantValue := 0 }, { name := "AIOOBE_FORMATTER", type := (.object "java/util/function/BiFunction"), accessFlags := 25, slot := 1, constantValue := 0 }, { name := "IOOBE_FORMATTER", type := (.object "java/util/function/BiFunction"), accessFlags := 25, slot := 2, constantValue := 0 }]
  methods := #[k13m0]
  instanceTypes := #[]
  staticTypes := #[(.object "java/util/function/BiFunction"), (.object "java/util/function/BiFunction"), (.object "java/util/function/BiFunction")]
  resolved := Array.replicate 194 none
  statics := some 2 }

def pool14 : Array CpInfo := pool [(9, u "<init>"), (6, .class_ 18), (1, u "java/lang/Object"), (0, u "()V"), (1, .class_ 23), (1, u "jdk/internal/util/ArraysSupport"), (0, u "LOG2_ARRAY_LONG_INDEX_SCALE"), (0, u "I"), (2, u "U"), (0, u "Ljdk/internal/misc/Unsafe;"), (8, u "BIG_ENDIAN"), (0, u "Z"), (8, u "LOG2_BYTE_BIT_SIZE"), (4, u "LOG2_ARRAY_INT_INDEX_SCALE"), (54, u "JLA"), (0, u "Ljdk/internal/access/JavaLangAccess;"), (11, u "LOG2_ARRAY_BOOLEAN_INDEX_SCALE"), (9, u "LOG2_ARRAY_BYTE_INDEX_SCALE"), (5, u "LOG2_ARRAY_CHAR_INDEX_SCALE"), (5, u "LOG2_ARRAY_SHORT_INDEX_SCALE"), (18, u "LOG2_ARRAY_FLOAT_INDEX_SCALE"), (24, u "LOG2_ARRAY_DOUBLE_INDEX_SCALE"), (89, u "T_BOOLEAN"), (2, u "T_CHAR"), (1, u "T_FLOAT"), (1, u "T_DOUBLE"), (1, u "T_BYTE"), (1, u "T_SHORT"), (1, u "T_INT"), (1, u "T_LONG"), (1, u "SOFT_MAX_ARRAY_LENGTH")] 83

def k14m0 : Method := { name := "<init>", desc := "()V", sig := { parameters := [], returnType := none }, accessFlags := 2, code := none }
/-- jdk/internal/util/ArraysSupport -/
def k14 : Class := { plain "jdk/internal/util/ArraysSupport" (some 0) with
  accessFlags := 33
  interfaces := #[]
  cf := some (fileOf pool14 21 #[] #[{ accessFlags := 2, nameIndex := 9, descriptorIndex := 19, attributes := #[] }] 33 16 #[] #[{ accessFlags := 24, nameIndex := 28, descriptorIndex := 29, attributes := #[] }, { accessFlags := 26, nameIndex := 38, descriptorIndex := 39, attributes := #[] }, { accessFlags := 25, nameIndex := 121, descriptorIndex := 25, attributes := #[] }, { accessFlags := 25, nameIndex := 131, descriptorIndex := 25, attributes := #[] }, { accessFlags := 25, nameIndex := 137, descriptorIndex := 25, attributes := #[] }, { accessFlags := 25, nameIndex := 143, descriptorIndex := 25, attributes := #[] }, { accessFlags := 25, nameIndex := 53, descriptorIndex := 25, attributes := #[] }, { accessFlags := 25, nameIndex := 24, descriptorIndex := 25, attributes := #[] }, { accessFlags := 25, nameIndex := 162, descriptorIndex := 25, attributes := #[] }, { accessFlags := 25, nameIndex := 187, descriptorIndex := 25, attributes := #[] }, { accessFlags := 26, nameIndex := 48, descriptorIndex := 25, attributes := #[] }, { accessFlags := 25, nameIndex := 277, descriptorIndex := 25, attributes := #[] }, { accessFlags := 25, nameIndex := 280, descriptorIndex := 25, attributes := #[] }, { accessFlags := 25, nameIndex := 282, descriptorIndex := 25, attributes := #[] }, { accessFlags := 25, nameIndex := 284, descriptorIndex := 25, attributes := #[] }, { accessFlags := 25, nameIndex := 286, descriptorIndex := 25, attributes := #[] }, { accessFlags := 25, nameIndex := 288, descriptorIndex := 25, attributes := #[] }, { accessFlags := 25, nameIndex := 290, descriptorIndex := 25, attributes := #[] }, { accessFlags := 25, nameIndex := 292, descriptorIndex := 25, attributes := #[] }, { accessFlags := 26, nameIndex := 108, descriptorIndex := 109, attributes := #[] }, { accessFlags := 25, nameIndex := 294, descriptorIndex := 25, attributes := #[] }])
  fields := #[{ name := "U", type := (.object "jdk/internal/misc/Unsafe"), accessFlags := 24, slot := 0, constantValue := 0 }, { name := "BIG_ENDIAN", type := .boolean, accessFlags := 26, slot := 1, constantValue := 0 }, { name := "LOG2_ARRAY_BOOLEAN_INDEX_SCALE", type := .int, accessFlags := 25, slot := 2, constantValue := 0 }, { name := "LOG2_ARRAY_BYTE_INDEX_SCALE", type := .int, accessFlags := 25, slot := 3, constantValue := 0 }, { name := "LOG2_ARRAY_CHAR_INDEX_SCALE", type := .int, accessFlags := 25, slot := 4, constantValue := 0 }, { name := "LOG2_ARRAY_SHORT_INDEX_SCALE", type := .int, accessFlags := 25, slot := 5, constantValue := 0 }, { name := "LOG2_ARRAY_INT_INDEX_SCALE", type := .int, accessFlags := 25, slot := 6, constantValue := 0 }, { name := "LOG2_ARRAY_LONG_INDEX_SCALE", type := .int, accessFlags := 25, slot := 7, constantValue := 0 }, { name := "LOG2_ARRAY_FLOAT_INDEX_SCALE", type := .int, accessFlags := 25, slot := 8, constantValue := 0 }, { name := "LOG2_ARRAY_DOUBLE_INDEX_SCALE", type := .int, accessFlags := 25, slot := 9, constantValue := 0 }, { name := "LOG2_BYTE_BIT_SIZE", type := .int, accessFlags := 26, slot := 10, constantValue := 0 }, { name := "T_BOOLEAN", type := .int, accessFlags := 25, slot := 11, constantValue := 0 }, { name := "T_CHAR", type := .int, accessFlags := 25, slot := 12, constantValue := 0 }, { name := "T_FLOAT", type := .int, accessFlags := 25, slot := 13, constantValue := 0 }, { name := "T_DOUBLE", type := .int, accessFlags := 25, slot := 14, constantValue := 0 }, { name := "T_BYTE", type := .int, accessFlags := 25, slot := 15, constantValue := 0 }, { name := "T_SHORT", type := .int, accessFlags := 25, slot := 16, constantValue := 0 }, { name := "T_INT", type := .int, accessFlags := 25, slot := 17, constantValue := 0 }, { name := "T_LONG", type := .int, accessFlags := 25, slot := 18, constantValue := 0 }, { name := "JLA", type := (.object "jdk/internal/access/JavaLangAccess"), accessFlags := 26, slot := 19, constantValue := 0 }, { name := "SOFT_MAX_ARRAY_LENGTH", type := .int, accessFlags := 25, slot := 20, constantValue := 0 }]
  methods := #[k14m0]
  instanceTypes := #[]
  staticTypes := #[(.object "jdk/internal/misc/Unsafe"), .boolean, .int, .int, .int, .int, .int, .int, .int, .int, .int, .int, .int, .int, .int, .int, .int, .int, .int, (.object "jdk/internal/access/JavaLangAccess"), .int]
  resolved := Array.replicate 378 none
  statics := none }

def pool15 : Array CpInfo := pool [(1, u "java/lang/Cloneable"), (0, .class_ 1), (0, u "java/lang/Object"), (0, .class_ 3)] 3

/-- java/lang/Cloneable -/
def k15 : Class := { plain "java/lang/Cloneable" (some 0) with
  accessFlags := 1537
  interfaces := #[]
  cf := some (fileOf pool15 2 #[] #[] 1537 4 #[] #[])
  fields := #[]
  methods := #[]
  instanceTypes := #[]
  staticTypes := #[]
  resolved := Array.replicate 8 none
  statics := none }

/-- the primitive byte -/
def k16 : Class := { plain "byte" none with kind := .primitive 'B', accessFlags := 0x411 }
/-- [B -/
def k17 : Class := { plain "[B" (some 0) with kind := .array 16 .byte, interfaces := #[15, 2], accessFlags := 1041 }

/-- the primitive int -/
def k18 : Class := { plain "int" none with kind := .primitive 'I', accessFlags := 0x411 }
/-- [I -/
def k19 : Class := { plain "[I" (some 0) with kind := .array 18 .int, interfaces := #[15, 2], accessFlags := 1041 }

def heap : Heap := #[{ cls := 7, slots := #[.long 0, .int 1, .null, .int 0, .null, .int 0, .int 0], vm := .statics 7 },
  { cls := 11, slots := #[.ref 3, .ref 4, .ref 5, .ref 6, .ref 7, .null], vm := .statics 11 },
  { cls := 13, slots := #[.null, .null, .null], vm := .statics 13 },
  { cls := 11, slots := #[.null, .int 0, .int 0], vm := .none },
  { cls := 11, slots := #[.null, .int 1, .int 0], vm := .none },
  { cls := 11, slots := #[.null, .int 2, .int 0], vm := .none },
  { cls := 11, slots := #[.null, .int 3, .int 0], vm := .none },
  { cls := 11, slots := #[.null, .int 4, .int 0], vm := .none }]
def classes : Array Class := #[k0, k1, k2, k3, k4, k5, k6, k7, k8, k9, k10, k11, k12, k13, k14, k15, k16, k17, k18, k19]
def interned : List (Array UInt16 × Addr) := []
def slotsUsed : Nat := 31
def theMethod : MethodId := ⟨1, 2⟩
def args0 : Array Value := #[.long 5, .long 3, .long 9, .int 2, .int 77]
def aboutOver (below : List Frame) : State where
  vm := { classes := classes, interned := interned.toArray }
  heap := heap
  slotsUsed := slotsUsed
  threads := #[{ frames := .invoking theMethod args0 :: below }]
def below0 : List Frame := [.native { method := ⟨0, 0⟩, args := #[] }]
def about1 : State := aboutOver below0
def p0 : Program := .bare "" "" ""
def e0 : Env := launch0.env 0 0 0
theorem w_frames : about1.frames = Frame.invoking theMethod args0 :: below0 := rfl
set_option maxRecDepth 65536 in
theorem w_args : argsFit about1.vm theMethod args0 = true := by decide +kernel
set_option maxRecDepth 65536 in
theorem w_heap : heapFits about1 = true := by decide +kernel
set_option maxRecDepth 65536 in
theorem w_runnable : about1.curStatus? = some .runnable := by decide +kernel
set_option maxRecDepth 65536 in
theorem w_alone : about1.alone = true := by decide +kernel
set_option maxRecDepth 65536 in
theorem w_named : about1.methodNamed? x = some theMethod := by decide +kernel
set_option maxRecDepth 65536 in
theorem w_hears : about1.hears theMethod below0 = true := by decide +kernel
set_option maxRecDepth 65536 in
theorem w_ripe : about1.ripe theMethod args0 below0 = true := by decide +kernel
theorem w_running : about1.status = .running := rfl
set_option maxRecDepth 65536 in
theorem w_room : about1.hasRoom e0.platform room_1 = true :=
  launch0.hasRoom_least _ room_1 (by decide +kernel) (by decide +kernel) (by decide +kernel) (by decide +kernel) (by decide +kernel) (by decide +kernel)
theorem allAtoms_all (ts : List Jvm.Cond) (a : Array Jvm.Value) (st : Jvm.State) : (allAtoms ts).before a st = ts.all (fun c => c.before a st) := by
  induction ts with
  | nil => rfl
  | cons c t ih =>
    show (Jvm.Cond.and c (allAtoms t)).before a st = _
    rw [Jvm.Cond.before_and, ih, List.all_cons]
def words1 : List Jvm.Cond := Jvm.Cond.code x code maxLocals ret :: tables_1
/-- a 'code' word, met by the world's own term for the bytes: nothing is compared byte by byte -/
theorem code_word {y : MethodName} {bytes : ByteArray} {mx : Nat} {rt : Option FieldType} {a : Array Value} {s : State} {m : MethodId} {meth : Method} {c : Code} (h1 : s.methodNamed? y = some m) (h2 : s.vm.method? m = some meth) (h3 : meth.code = some c) (h4 : c.code = bytes)
    (h5 : (c.maxLocals == mx && c.exceptionTable.isEmpty && decide (c.maxStack ≤ mostOperands) && decide (meth.sig.returnType = rt) && !meth.locks && decide (parseMethodDescriptor y.desc = some meth.sig)) = true) : (Jvm.Cond.code y bytes mx rt).before a s = true := by
  simp only [Bool.and_eq_true, beq_iff_eq, Bool.not_eq_true', decide_eq_true_eq] at h5
  obtain ⟨⟨⟨⟨⟨g1, g2⟩, g3⟩, g4⟩, g5⟩, g6⟩ := h5
  simp [Cond.before, Cond.holds, Cond.value, h1, h2, h3, h4, g1, g2, g3, g4, g5, g6]
def isCode : Jvm.Cond → Bool
  | .code _ _ _ _ => true
  | _ => false
theorem all_split {L : List Jvm.Cond} {P : Jvm.Cond → Bool} (h1 : L.all (fun c => isCode c || P c) = true) (h2 : ∀ c ∈ L.filter isCode, P c = true) : L.all P = true := by
  refine List.all_eq_true.mpr fun c hc => ?_
  have h := List.all_eq_true.mp h1 c hc
  rcases Bool.eq_false_or_eq_true (isCode c) with hi | hi
  · exact h2 c (List.mem_filter.mpr ⟨hc, hi⟩)
  · simpa [hi] using h
set_option maxRecDepth 65536 in
theorem w_c0 : (Jvm.Cond.code x code maxLocals ret).before args0 about1 = true := code_word (m := ⟨1, 2⟩) (meth := k1m2) (c := k1c2) (by decide +kernel) rfl rfl rfl (by decide +kernel)
set_option maxRecDepth 65536 in
theorem w_c1 : (Jvm.Cond.code ({ cls := "java/lang/String", name := "valueOf", desc := "(C)Ljava/lang/String;" } : Jvm.MethodName) jdk_42_method_139_code (1 : Nat) (Option.some (Jvm.ClassFile.FieldType.object "java/lang/String"))).before args0 about1 = true := code_word (m := ⟨7, 1⟩) (meth := k7m1) (c := k7c1) (by decide +kernel) rfl rfl rfl (by decide +kernel)
set_option maxRecDepth 65536 in
theorem w_c2 : (Jvm.Cond.code ({ cls := "java/lang/StringLatin1", name := "canEncode", desc := "(C)Z" } : Jvm.MethodName) jdk_43_method_3_code (1 : Nat) (Option.some Jvm.ClassFile.FieldType.boolean)).before args0 about1 = true := code_word (m := ⟨8, 1⟩) (meth := k8m1) (c := k8c1) (by decide +kernel) rfl rfl rfl (by decide +kernel)
set_option maxRecDepth 65536 in
theorem w_c3 : (Jvm.Cond.code ({ cls := "java/lang/StringLatin1", name := "toBytes", desc := "(C)[B" } : Jvm.MethodName) jdk_43_method_46_code (1 : Nat) (Option.some (Jvm.ClassFile.FieldType.array Jvm.ClassFile.FieldType.byte))).before args0 about1 = true := code_word (m := ⟨8, 2⟩) (meth := k8m2) (c := k8c2) (by decide +kernel) rfl rfl rfl (by decide +kernel)
set_option maxRecDepth 65536 in
theorem w_c4 : (Jvm.Cond.code ({ cls := "java/lang/String", name := "<init>", desc := "([BB)V" } : Jvm.MethodName) jdk_42_method_151_code (3 : Nat) (Option.none : Option Jvm.ClassFile.FieldType)).before args0 about1 = true := code_word (m := ⟨7, 2⟩) (meth := k7m2) (c := k7c2) (by decide +kernel) rfl rfl rfl (by decide +kernel)
set_option maxRecDepth 65536 in
theorem w_c5 : (Jvm.Cond.code ({ cls := "java/lang/Object", name := "<init>", desc := "()V" } : Jvm.MethodName) object_method_1_code (1 : Nat) (Option.none : Option Jvm.ClassFile.FieldType)).before args0 about1 = true := code_word (m := ⟨0, 0⟩) (meth := k0m0) (c := k0c0) (by decide +kernel) rfl rfl rfl (by decide +kernel)
set_option maxRecDepth 65536 in
theorem w_c6 : (Jvm.Cond.code ({ cls := "com/example/hybrev/hybrev/UserRevocationRevokesPinLaw", name := "pick", desc := "(I)Lcom/example/hybrev/hybrev/Reason;" } : Jvm.MethodName) method_2_code (2 : Nat) (Option.some (Jvm.ClassFile.FieldType.object "com/example/hybrev/hybrev/Reason"))).before args0 about1 = true := code_word (m := ⟨1, 1⟩) (meth := k1m1) (c := k1c1) (by decide +kernel) rfl rfl rfl (by decide +kernel)
set_option maxRecDepth 65536 in
theorem w_c7 : (Jvm.Cond.code ({ cls := "com/example/hybrev/hybrev/UserRevocation", name := "<init>", desc := "(Ljava/lang/String;Lcom/example/hybrev/hybrev/Reason;JLjava/lang/String;)V" } : Jvm.MethodName) prog_25_method_1_code (6 : Nat) (Option.none : Option Jvm.ClassFile.FieldType)).before args0 about1 = true := code_word (m := ⟨9, 0⟩) (meth := k9m0) (c := k9c0) (by decide +kernel) rfl rfl rfl (by decide +kernel)
set_option maxRecDepth 65536 in
theorem w_c8 : (Jvm.Cond.code ({ cls := "com/example/hybrev/hybrev/UserRevocation", name := "revokes", desc := "(J)Z" } : Jvm.MethodName) prog_25_method_2_code (3 : Nat) (Option.some Jvm.ClassFile.FieldType.boolean)).before args0 about1 = true := code_word (m := ⟨9, 1⟩) (meth := k9m1) (c := k9c1) (by decide +kernel) rfl rfl rfl (by decide +kernel)
set_option maxRecDepth 65536 in
theorem w_c9 : (Jvm.Cond.code ({ cls := "java/lang/Math", name := "min", desc := "(JJ)J" } : Jvm.MethodName) jdk_29_method_70_code (4 : Nat) (Option.some Jvm.ClassFile.FieldType.long)).before args0 about1 = true := code_word (m := ⟨12, 2⟩) (meth := k12m2) (c := k12c2) (by decide +kernel) rfl rfl rfl (by decide +kernel)
set_option maxRecDepth 65536 in
theorem w_c10 : (Jvm.Cond.code ({ cls := "java/lang/Math", name := "max", desc := "(JJ)J" } : Jvm.MethodName) jdk_29_method_66_code (4 : Nat) (Option.some Jvm.ClassFile.FieldType.long)).before args0 about1 = true := code_word (m := ⟨12, 1⟩) (meth := k12m1) (c := k12c1) (by decide +kernel) rfl rfl rfl (by decide +kernel)
def codes1 : List Jvm.Cond := [Jvm.Cond.code x code maxLocals ret, Jvm.Cond.code ({ cls := "java/lang/String", name := "valueOf", desc := "(C)Ljava/lang/String;" } : Jvm.MethodName) jdk_42_method_139_code (1 : Nat) (Option.some (Jvm.ClassFile.FieldType.object "java/lang/String")), Jvm.Cond.code ({ cls := "java/lang/StringLatin1", name := "canEncode", desc := "(C)Z" } : Jvm.MethodName) jdk_43_method_3_code (1 : Nat) (Option.some Jvm.ClassFile.FieldType.boolean), Jvm.Cond.code ({ cls := "java/lang/StringLatin1", name := "toBytes", desc := "(C)[B" } : Jvm.MethodName) jdk_43_method_46_code (1 : Nat) (Option.some (Jvm.ClassFile.FieldType.array Jvm.ClassFile.FieldType.byte)), Jvm.Cond.code ({ cls := "java/lang/String", name := "<init>", desc := "([BB)V" } : Jvm.MethodName) jdk_42_method_151_code (3 : Nat) (Option.none : Option Jvm.ClassFile.FieldType), Jvm.Cond.code ({ cls := "java/lang/Object", name := "<init>", desc := "()V" } : Jvm.MethodName) object_method_1_code (1 : Nat) (Option.none : Option Jvm.ClassFile.FieldType), Jvm.Cond.code ({ cls := "com/example/hybrev/hybrev/UserRevocationRevokesPinLaw", name := "pick", desc := "(I)Lcom/example/hybrev/hybrev/Reason;" } : Jvm.MethodName) method_2_code (2 : Nat) (Option.some (Jvm.ClassFile.FieldType.object "com/example/hybrev/hybrev/Reason")), Jvm.Cond.code ({ cls := "com/example/hybrev/hybrev/UserRevocation", name := "<init>", desc := "(Ljava/lang/String;Lcom/example/hybrev/hybrev/Reason;JLjava/lang/String;)V" } : Jvm.MethodName) prog_25_method_1_code (6 : Nat) (Option.none : Option Jvm.ClassFile.FieldType), Jvm.Cond.code ({ cls := "com/example/hybrev/hybrev/UserRevocation", name := "revokes", desc := "(J)Z" } : Jvm.MethodName) prog_25_method_2_code (3 : Nat) (Option.some Jvm.ClassFile.FieldType.boolean), Jvm.Cond.code ({ cls := "java/lang/Math", name := "min", desc := "(JJ)J" } : Jvm.MethodName) jdk_29_method_70_code (4 : Nat) (Option.some Jvm.ClassFile.FieldType.long), Jvm.Cond.code ({ cls := "java/lang/Math", name := "max", desc := "(JJ)J" } : Jvm.MethodName) jdk_29_method_66_code (4 : Nat) (Option.some Jvm.ClassFile.FieldType.long)]
set_option maxRecDepth 65536 in
theorem codes_eq : words1.filter isCode = codes1 := rfl
theorem w_codes : ∀ c ∈ words1.filter isCode, c.before args0 about1 = true := by
  rw [codes_eq]
  intro c hc
  simp only [codes1, List.mem_cons, List.not_mem_nil, or_false] at hc
  rcases hc with rfl | rfl | rfl | rfl | rfl | rfl | rfl | rfl | rfl | rfl | rfl
  · exact w_c0
  · exact w_c1
  · exact w_c2
  · exact w_c3
  · exact w_c4
  · exact w_c5
  · exact w_c6
  · exact w_c7
  · exact w_c8
  · exact w_c9
  · exact w_c10
set_option maxRecDepth 65536 in
theorem w_t1 : (words1.take 24).all (fun c => isCode c || c.before args0 about1) = true := by decide +kernel
set_option maxRecDepth 65536 in
theorem w_t2 : ((words1.drop 24).take 24).all (fun c => isCode c || c.before args0 about1) = true := by decide +kernel
set_option maxRecDepth 65536 in
theorem w_t3 : ((words1.drop 24).drop 24).all (fun c => isCode c || c.before args0 about1) = true := by decide +kernel
theorem w_tables : (allAtoms (Jvm.Cond.code x code maxLocals ret :: tables_1)).before args0 about1 = true := by
  rw [allAtoms_all]
  show words1.all (fun c => c.before args0 about1) = true
  refine all_split ?_ w_codes
  rw [← List.take_append_drop 24 words1, List.all_append, w_t1, ← List.take_append_drop 24 (words1.drop 24), List.all_append, w_t2, w_t3]
  rfl
set_option maxRecDepth 65536 in
theorem w_rest : rest_1_c.before args0 about1 = true := by decide +kernel
set_option maxRecDepth 65536 in
theorem w_case : (Jvm.Cond.and given_1 narrow_1).before args0 about1 = true := by decide +kernel
theorem w_applies : (headSpec (Jvm.Cond.code x code maxLocals ret :: tables_1) room_1).applies x e0.platform about1 = true :=
  (Spec.applies_iff w_frames).mpr ⟨w_running, w_runnable, w_alone, w_named, w_hears, w_ripe, w_room, w_tables⟩
theorem atStart : AtStart classFile x code maxLocals ret World_1 tables_1 room_1 Calls_1 rest_1 Pre_1 launch0 p0 e0 about1 theMethod args0 below0 :=
  ⟨lists_1, trivial, launch0.admits_env _ _ _, launch0.least_env, fairChoices_fair.cas, fairChoices_fair.clock, w_frames, w_args, w_heap, w_applies, trivial, w_rest, w_case⟩
end start1
theorem witness_1 : WitnessClaimed_1 := ⟨start1.p0, start1.e0, start1.about1, start1.theMethod, start1.args0, start1.below0, start1.atStart⟩
end Jvm.Pilot.@@N@@
