import JvmDerived
import JvmDerived.Pilot.@@N@@Statement
import JvmDerived.Pilot.@@N@@Code
set_option linter.unusedVariables false
set_option linter.unusedSimpArgs false
namespace Jvm.Pilot.@@N@@
open Jvm Jvm.ClassFile Sem Op Lib Jvm.Free Jvm.Stand Jvm.LawKit Jvm.RoadKit Bundle Jvm.Pilot.@@N@@.Jvm.D
/-- from t the run comes to an end of which P holds -/
def Goes (tb : Tables) (e : Env) (below : List Frame) (P : Outcome → State → Prop) (t : State) : Prop := ∃ s₂ o, Steps tb e below t s₂ ∧ s₂.status = .running ∧ Ended s₂ below o ∧ P o s₂
theorem Goes.on {tb : Tables} {e : Env} {below : List Frame} {P : Outcome → State → Prop} {t t' : State} (h : ∀ target, Steps tb e below t' target → Steps tb e below t target) (k : Goes tb e below P t') : Goes tb e below P t := by
  obtain ⟨s₂, o, h1, h2⟩ := k
  exact ⟨s₂, o, h _ h1, h2⟩
theorem Goes.to {tb : Tables} {e : Env} {below : List Frame} {P : Outcome → State → Prop} {t t' : State} (h : Steps tb e below t t') (k : Goes tb e below P t') : Goes tb e below P t := k.on fun _ q => h.trans q
/-- what a body's end says -/
def Ends (s : State) (Q : Option Value → Heap → List Loc → Prop) (C S : Nat) (o : Outcome) (U : State) : Prop := ∃ v L, o = .returned v ∧ Q v U.heap L ∧ FrameEnd s o U L C S
/-- a body's contract -/
def Met (l : Launch) (Z : State) (y : MethodName) (bytes : ByteArray) (maxL : Nat) (ret : Option FieldType) (rm : Room) (ws : List Jvm.Cond) (as' : Array Value) (h0 : Heap) (Q : Option Value → Heap → List Loc → Prop) : Prop :=
  MetFree l y (head1 (Jvm.Cond.code y bytes maxL ret :: ws) rm) (fun a U => a = as' ∧ Z.Warmed39 U.vm ∧ U.heap = h0) (fun _ _ _ _ _ => True) (fun _ U o U' => ∃ v L, o = .returned v ∧ Q v U'.heap L ∧ FrameEnd U o U' L rm.cells rm.slots)
section Own
variable {p : Program} {l : Launch} {e : Env} {R : Room} {s : State} {m : MethodId} {args : Array Value} {below : List Frame} {meth : Method} {c : Code} {T : State} {locs : List Loc} {cells slots cells' slots' : Nat} {Z : State} {a0 : Array Value} {h : Heap} {P : Outcome → State → Prop} {pc pc' : Nat} {L L' : Array Slot} {S : List Value}
theorem met_of {y : MethodName} {bytes : ByteArray} {maxL : Nat} {ret : Option FieldType} {rm : Room} {ws : List Jvm.Cond} {as' : Array Value} {h0 : Heap} {Q : Option Value → Heap → List Loc → Prop} {L0 : Array Slot}
    (hpn : plainFor y = true) (hef : ∀ m, entryFrame m as' maxL = mkF m 0 L0 [])
    (body : ∀ (p : Program) (e : Env) (s : State) (m : MethodId) (below : List Frame) (meth : Method) (c : Code) (T : State), p.tables.exec = Jvm.exec → c.code = bytes → c.maxLocals = maxL → s.vm.findClass y.cls = some m.cls → meth.name = y.name → meth.sig.returnType = ret → meth.locks = false → Z.Warmed39 s.vm → Stand p l e rm s m as' below meth c T [] 0 0 → T.heap = h0 → Goes p.tables e below (Ends s Q rm.cells rm.slots) (T.setTop (mkF m 0 L0 []))) :
    Met l Z y bytes maxL ret rm ws as' h0 Q := by
  refine MetFree.of_bodySF hpn hisR ?_
  intro p e s m args below meth c s₁ Bd hml0 hP hK
  obtain ⟨rfl, hZ, hh⟩ := hP
  have e0 : s₁.heap = h0 := by rw [← hh, Bd.state]; rfl
  obtain ⟨s₂, o, h1, h2, h3, h4⟩ := body p e s m below meth c s₁ Bd.exec Bd.bytes hml0 (findClass_of_methodNamed Bd.named) (name_of_methodNamed Bd.named Bd.method).1 Bd.returns (BodyLoose.notSynchronized Bd) hZ (Stand.of_body Bd) e0
  exact ⟨s₂, o, castTop (hef m) h1, h2, h3, h4⟩
theorem o_cat {v : Value} (h : v.isRef = true) : v.category = 1 := by rcases ref_cases h with rfl | ⟨a, rfl⟩ <;> rfl
theorem o_nar {C : String} {v : Value} (h : v.isRef = true) : narrow (.object C) v = v := by rcases ref_cases h with rfl | ⟨a, rfl⟩ <;> rfl
theorem o_fit {C : String} {v : Value} (h : v.isRef = true) : fits (.object C) v = true := by rcases ref_cases h with rfl | ⟨a, rfl⟩ <;> rfl
theorem o_nar01 {z : Int32} (h : z = 0 ∨ z = 1) : narrow .boolean (.int z) = .int z := by rcases h with rfl | rfl <;> rfl
theorem o_fit01 {z : Int32} (h : z = 0 ∨ z = 1) : fits .boolean (.int z) = true := by rcases h with rfl | rfl <;> rfl
theorem o_ret (X : Stand p l e R s m args below meth c T locs cells slots) (hx : p.tables.exec = Jvm.exec) (hlk : meth.locks = false) {w : Value} {t : FieldType} {i : Instr} {Q : Option Value → Heap → List Loc → Prop} {C Sl : Nat} (hret : meth.sig.returnType = some t) (hn : narrow t w = w)
    (hi : (i = .ireturn ∧ (t = .int ∨ t = .boolean ∨ t = .byte ∨ t = .char ∨ t = .short) ∧ ∃ z, w = .int z) ∨ (i = .lreturn ∧ t = .long ∧ ∃ z, w = .long z) ∨ (i = .dreturn ∧ t = .double ∧ ∃ z, w = .double z) ∨ (i = .freturn ∧ t = .float ∧ ∃ z, w = .float z) ∨ (i = .areturn ∧ t.isReference = true ∧ w.isRef = true))
    (hd : decode c.code pc = .ok (i, 1)) (hC : cells ≤ C) (hS : slots ≤ Sl) (eT : T.heap = h) (hq : Q (some w) h locs) : Goes p.tables e below (Ends s Q C Sl) (T.setTop (mkF m pc L (w :: S))) := by
  subst eT
  obtain ⟨fs, hr, hrun, hended, hW, hsame⟩ := X.leave (v := some w) (fun h => by rw [hret] at h; cases h) hlk
  exact ⟨_, _, retOut X hx hret hn hi hd hr, hrun, hended, _, _, rfl, hq, ⟨_, rfl⟩, hW, hsame.mono hC hS⟩
theorem o_retV (X : Stand p l e R s m args below meth c T locs cells slots) (hx : p.tables.exec = Jvm.exec) (hlk : meth.locks = false) {Q : Option Value → Heap → List Loc → Prop} {C Sl : Nat} (hret : meth.sig.returnType = none) (hd : decode c.code pc = .ok (.return_, 1)) (hC : cells ≤ C) (hS : slots ≤ Sl) (eT : T.heap = h) (hq : Q none h locs) :
    Goes p.tables e below (Ends s Q C Sl) (T.setTop (mkF m pc L [])) := by
  subst eT
  obtain ⟨fs, hr, hrun, hended, hW, hsame⟩ := X.leave (v := none) (fun _ => rfl) hlk
  exact ⟨_, _, X.returnOut hx hret hd hr, hrun, hended, _, _, rfl, hq, ⟨_, rfl⟩, hW, hsame.mono hC hS⟩
theorem o_iloadN (X : Stand p l e R s m args below meth c T locs cells slots) (hx : p.tables.exec = Jvm.exec) {k : Fin 4} {v : Int32} (hd : decode c.code pc = .ok (.iload_n k, 1)) (hl : L[k.val]? = some (.val (.int v))) (hp : pc + 1 = pc') (kk : Goes p.tables e below P (T.setTop (mkF m pc' L (.int v :: S)))) : Goes p.tables e below P (T.setTop (mkF m pc L S)) := by
  subst hp; exact kk.on fun _ k => XS.iloadN X.here hx rfl hd hl k
theorem o_iload (X : Stand p l e R s m args below meth c T locs cells slots) (hx : p.tables.exec = Jvm.exec) {k : Nat} {v : Int32} (hd : decode c.code pc = .ok (.iload k, 2)) (hl : L[k]? = some (.val (.int v))) (hp : pc + 2 = pc') (kk : Goes p.tables e below P (T.setTop (mkF m pc' L (.int v :: S)))) : Goes p.tables e below P (T.setTop (mkF m pc L S)) := by
  subst hp; exact kk.on fun _ k => XS.iload X.here hx rfl hd hl k
theorem o_istoreN (X : Stand p l e R s m args below meth c T locs cells slots) (hx : p.tables.exec = Jvm.exec) {k : Fin 4} {x : Int32} (hd : decode c.code pc = .ok (.istore_n k, 1)) (hl : storeLocals L k.val (.int x) = some L') (hp : pc + 1 = pc') (kk : Goes p.tables e below P (T.setTop (mkF m pc' L' S))) : Goes p.tables e below P (T.setTop (mkF m pc L (.int x :: S))) := by
  subst hp; exact kk.on fun _ k => XS.istoreN X.here hx rfl hd rfl hl k
theorem o_istore (X : Stand p l e R s m args below meth c T locs cells slots) (hx : p.tables.exec = Jvm.exec) {k : Nat} {x : Int32} (hd : decode c.code pc = .ok (.istore k, 2)) (hl : storeLocals L k (.int x) = some L') (hp : pc + 2 = pc') (kk : Goes p.tables e below P (T.setTop (mkF m pc' L' S))) : Goes p.tables e below P (T.setTop (mkF m pc L (.int x :: S))) := by
  subst hp; exact kk.on fun _ k => XS.istore X.here hx rfl hd rfl hl k
theorem o_lloadN (X : Stand p l e R s m args below meth c T locs cells slots) (hx : p.tables.exec = Jvm.exec) {k : Fin 4} {v : Int64} (hd : decode c.code pc = .ok (.lload_n k, 1)) (hl : L[k.val]? = some (.val (.long v))) (hp : pc + 1 = pc') (kk : Goes p.tables e below P (T.setTop (mkF m pc' L (.long v :: S)))) : Goes p.tables e below P (T.setTop (mkF m pc L S)) := by
  subst hp; exact kk.on fun _ k => XS.lloadN X.here hx rfl hd hl k
theorem o_lload (X : Stand p l e R s m args below meth c T locs cells slots) (hx : p.tables.exec = Jvm.exec) {k : Nat} {v : Int64} (hd : decode c.code pc = .ok (.lload k, 2)) (hl : L[k]? = some (.val (.long v))) (hp : pc + 2 = pc') (kk : Goes p.tables e below P (T.setTop (mkF m pc' L (.long v :: S)))) : Goes p.tables e below P (T.setTop (mkF m pc L S)) := by
  subst hp; exact kk.on fun _ k => XS.lload X.here hx rfl hd hl k
theorem o_lstoreN (X : Stand p l e R s m args below meth c T locs cells slots) (hx : p.tables.exec = Jvm.exec) {k : Fin 4} {x : Int64} (hd : decode c.code pc = .ok (.lstore_n k, 1)) (hl : storeLocals L k.val (.long x) = some L') (hp : pc + 1 = pc') (kk : Goes p.tables e below P (T.setTop (mkF m pc' L' S))) : Goes p.tables e below P (T.setTop (mkF m pc L (.long x :: S))) := by
  subst hp; exact kk.on fun _ k => XS.lstoreN X.here hx rfl hd rfl hl k
theorem o_lstore (X : Stand p l e R s m args below meth c T locs cells slots) (hx : p.tables.exec = Jvm.exec) {k : Nat} {x : Int64} (hd : decode c.code pc = .ok (.lstore k, 2)) (hl : storeLocals L k (.long x) = some L') (hp : pc + 2 = pc') (kk : Goes p.tables e below P (T.setTop (mkF m pc' L' S))) : Goes p.tables e below P (T.setTop (mkF m pc L (.long x :: S))) := by
  subst hp; exact kk.on fun _ k => XS.lstore X.here hx rfl hd rfl hl k
theorem o_aloadN (X : Stand p l e R s m args below meth c T locs cells slots) (hx : p.tables.exec = Jvm.exec) {k : Fin 4} {v : Value} (hd : decode c.code pc = .ok (.aload_n k, 1)) (hl : L[k.val]? = some (.val v)) (hv : v.isRef = true) (hp : pc + 1 = pc') (kk : Goes p.tables e below P (T.setTop (mkF m pc' L (v :: S)))) : Goes p.tables e below P (T.setTop (mkF m pc L S)) := by
  subst hp; exact kk.on fun _ k => XS.aloadN X.here hx rfl hd hl hv k
theorem o_aload (X : Stand p l e R s m args below meth c T locs cells slots) (hx : p.tables.exec = Jvm.exec) {k : Nat} {v : Value} (hd : decode c.code pc = .ok (.aload k, 2)) (hl : L[k]? = some (.val v)) (hv : v.isRef = true) (hp : pc + 2 = pc') (kk : Goes p.tables e below P (T.setTop (mkF m pc' L (v :: S)))) : Goes p.tables e below P (T.setTop (mkF m pc L S)) := by
  subst hp; exact kk.on fun _ k => XS.aload X.here hx rfl hd hl hv k
theorem o_astoreN (X : Stand p l e R s m args below meth c T locs cells slots) (hx : p.tables.exec = Jvm.exec) {k : Fin 4} {x : Value} (hd : decode c.code pc = .ok (.astore_n k, 1)) (hv : x.isRef = true) (hl : storeLocals L k.val x = some L') (hp : pc + 1 = pc') (kk : Goes p.tables e below P (T.setTop (mkF m pc' L' S))) : Goes p.tables e below P (T.setTop (mkF m pc L (x :: S))) := by
  subst hp; exact kk.on fun _ k => XS.astoreN X.here hx rfl hd rfl hv hl k
theorem o_astore (X : Stand p l e R s m args below meth c T locs cells slots) (hx : p.tables.exec = Jvm.exec) {k : Nat} {x : Value} (hd : decode c.code pc = .ok (.astore k, 2)) (hv : x.isRef = true) (hl : storeLocals L k x = some L') (hp : pc + 2 = pc') (kk : Goes p.tables e below P (T.setTop (mkF m pc' L' S))) : Goes p.tables e below P (T.setTop (mkF m pc L (x :: S))) := by
  subst hp; exact kk.on fun _ k => XS.astore X.here hx rfl hd rfl hv hl k
theorem o_iconst (X : Stand p l e R s m args below meth c T locs cells slots) (hx : p.tables.exec = Jvm.exec) {i : Int} {v : Int32} (hd : decode c.code pc = .ok (.iconst i, 1)) (hv : Int32.ofInt i = v) (hp : pc + 1 = pc') (kk : Goes p.tables e below P (T.setTop (mkF m pc' L (.int v :: S)))) : Goes p.tables e below P (T.setTop (mkF m pc L S)) := by
  subst hp; subst hv; exact kk.on fun _ k => XS.iconst X.here hx rfl hd  k
theorem o_bipush (X : Stand p l e R s m args below meth c T locs cells slots) (hx : p.tables.exec = Jvm.exec) {i : Int} {v : Int32} (hd : decode c.code pc = .ok (.bipush i, 2)) (hv : (Int8.ofInt i).toInt32 = v) (hp : pc + 2 = pc') (kk : Goes p.tables e below P (T.setTop (mkF m pc' L (.int v :: S)))) : Goes p.tables e below P (T.setTop (mkF m pc L S)) := by
  subst hp; subst hv; exact kk.on fun _ k => XS.bipush X.here hx rfl hd  k
theorem o_sipush (X : Stand p l e R s m args below meth c T locs cells slots) (hx : p.tables.exec = Jvm.exec) {i : Int} {v : Int32} (hd : decode c.code pc = .ok (.sipush i, 3)) (hv : (Int16.ofInt i).toInt32 = v) (hp : pc + 3 = pc') (kk : Goes p.tables e below P (T.setTop (mkF m pc' L (.int v :: S)))) : Goes p.tables e below P (T.setTop (mkF m pc L S)) := by
  subst hp; subst hv; exact kk.on fun _ k => XS.sipush X.here hx rfl hd  k
theorem o_lconst (X : Stand p l e R s m args below meth c T locs cells slots) (hx : p.tables.exec = Jvm.exec) {k : Fin 2} {v : Int64} (hd : decode c.code pc = .ok (.lconst k, 1)) (hv : Int64.ofNat k = v) (hp : pc + 1 = pc') (kk : Goes p.tables e below P (T.setTop (mkF m pc' L (.long v :: S)))) : Goes p.tables e below P (T.setTop (mkF m pc L S)) := by
  subst hp; subst hv; exact kk.on fun _ k => XS.lconst X.here hx rfl hd  k
theorem o_aconstNull (X : Stand p l e R s m args below meth c T locs cells slots) (hx : p.tables.exec = Jvm.exec)  (hd : decode c.code pc = .ok (.aconst_null, 1)) (hp : pc + 1 = pc') (kk : Goes p.tables e below P (T.setTop (mkF m pc' L (.null :: S)))) : Goes p.tables e below P (T.setTop (mkF m pc L S)) := by
  subst hp; exact kk.on fun _ k => XS.aconstNull X.here hx rfl hd  k
theorem o_iadd (X : Stand p l e R s m args below meth c T locs cells slots) (hx : p.tables.exec = Jvm.exec) {x y : Int32} (hd : decode c.code pc = .ok (.iadd, 1)) (hp : pc + 1 = pc') (kk : Goes p.tables e below P (T.setTop (mkF m pc' L (.int (x + y) :: S)))) : Goes p.tables e below P (T.setTop (mkF m pc L (.int y :: .int x :: S))) := by
  subst hp; exact kk.on fun _ k => XS.iadd X.here hx rfl hd rfl k
theorem o_isub (X : Stand p l e R s m args below meth c T locs cells slots) (hx : p.tables.exec = Jvm.exec) {x y : Int32} (hd : decode c.code pc = .ok (.isub, 1)) (hp : pc + 1 = pc') (kk : Goes p.tables e below P (T.setTop (mkF m pc' L (.int (x - y) :: S)))) : Goes p.tables e below P (T.setTop (mkF m pc L (.int y :: .int x :: S))) := by
  subst hp; exact kk.on fun _ k => XS.isub X.here hx rfl hd rfl k
theorem o_imul (X : Stand p l e R s m args below meth c T locs cells slots) (hx : p.tables.exec = Jvm.exec) {x y : Int32} (hd : decode c.code pc = .ok (.imul, 1)) (hp : pc + 1 = pc') (kk : Goes p.tables e below P (T.setTop (mkF m pc' L (.int (x * y) :: S)))) : Goes p.tables e below P (T.setTop (mkF m pc L (.int y :: .int x :: S))) := by
  subst hp; exact kk.on fun _ k => XS.imul X.here hx rfl hd rfl k
theorem o_iand (X : Stand p l e R s m args below meth c T locs cells slots) (hx : p.tables.exec = Jvm.exec) {x y : Int32} (hd : decode c.code pc = .ok (.iand, 1)) (hp : pc + 1 = pc') (kk : Goes p.tables e below P (T.setTop (mkF m pc' L (.int (x &&& y) :: S)))) : Goes p.tables e below P (T.setTop (mkF m pc L (.int y :: .int x :: S))) := by
  subst hp; exact kk.on fun _ k => XS.iand X.here hx rfl hd rfl k
theorem o_ior (X : Stand p l e R s m args below meth c T locs cells slots) (hx : p.tables.exec = Jvm.exec) {x y : Int32} (hd : decode c.code pc = .ok (.ior, 1)) (hp : pc + 1 = pc') (kk : Goes p.tables e below P (T.setTop (mkF m pc' L (.int (x ||| y) :: S)))) : Goes p.tables e below P (T.setTop (mkF m pc L (.int y :: .int x :: S))) := by
  subst hp; exact kk.on fun _ k => XS.ior X.here hx rfl hd rfl k
theorem o_ixor (X : Stand p l e R s m args below meth c T locs cells slots) (hx : p.tables.exec = Jvm.exec) {x y : Int32} (hd : decode c.code pc = .ok (.ixor, 1)) (hp : pc + 1 = pc') (kk : Goes p.tables e below P (T.setTop (mkF m pc' L (.int (x ^^^ y) :: S)))) : Goes p.tables e below P (T.setTop (mkF m pc L (.int y :: .int x :: S))) := by
  subst hp; exact kk.on fun _ k => XS.ixor X.here hx rfl hd rfl k
theorem o_ishl (X : Stand p l e R s m args below meth c T locs cells slots) (hx : p.tables.exec = Jvm.exec) {x y : Int32} (hd : decode c.code pc = .ok (.ishl, 1)) (hp : pc + 1 = pc') (kk : Goes p.tables e below P (T.setTop (mkF m pc' L (.int (x <<< (y &&& 31)) :: S)))) : Goes p.tables e below P (T.setTop (mkF m pc L (.int y :: .int x :: S))) := by
  subst hp; exact kk.on fun _ k => XS.ishl X.here hx rfl hd rfl k
theorem o_ishr (X : Stand p l e R s m args below meth c T locs cells slots) (hx : p.tables.exec = Jvm.exec) {x y : Int32} (hd : decode c.code pc = .ok (.ishr, 1)) (hp : pc + 1 = pc') (kk : Goes p.tables e below P (T.setTop (mkF m pc' L (.int (x >>> (y &&& 31)) :: S)))) : Goes p.tables e below P (T.setTop (mkF m pc L (.int y :: .int x :: S))) := by
  subst hp; exact kk.on fun _ k => XS.ishr X.here hx rfl hd rfl k
theorem o_iushr (X : Stand p l e R s m args below meth c T locs cells slots) (hx : p.tables.exec = Jvm.exec) {x y : Int32} (hd : decode c.code pc = .ok (.iushr, 1)) (hp : pc + 1 = pc') (kk : Goes p.tables e below P (T.setTop (mkF m pc' L (.int ((x.toUInt32 >>> (y &&& 31).toUInt32).toInt32) :: S)))) : Goes p.tables e below P (T.setTop (mkF m pc L (.int y :: .int x :: S))) := by
  subst hp; exact kk.on fun _ k => XS.iushr X.here hx rfl hd rfl k
theorem o_ladd (X : Stand p l e R s m args below meth c T locs cells slots) (hx : p.tables.exec = Jvm.exec) {x y : Int64} (hd : decode c.code pc = .ok (.ladd, 1)) (hp : pc + 1 = pc') (kk : Goes p.tables e below P (T.setTop (mkF m pc' L (.long (x + y) :: S)))) : Goes p.tables e below P (T.setTop (mkF m pc L (.long y :: .long x :: S))) := by
  subst hp; exact kk.on fun _ k => XS.ladd X.here hx rfl hd rfl k
theorem o_lsub (X : Stand p l e R s m args below meth c T locs cells slots) (hx : p.tables.exec = Jvm.exec) {x y : Int64} (hd : decode c.code pc = .ok (.lsub, 1)) (hp : pc + 1 = pc') (kk : Goes p.tables e below P (T.setTop (mkF m pc' L (.long (x - y) :: S)))) : Goes p.tables e below P (T.setTop (mkF m pc L (.long y :: .long x :: S))) := by
  subst hp; exact kk.on fun _ k => XS.lsub X.here hx rfl hd rfl k
theorem o_lmul (X : Stand p l e R s m args below meth c T locs cells slots) (hx : p.tables.exec = Jvm.exec) {x y : Int64} (hd : decode c.code pc = .ok (.lmul, 1)) (hp : pc + 1 = pc') (kk : Goes p.tables e below P (T.setTop (mkF m pc' L (.long (x * y) :: S)))) : Goes p.tables e below P (T.setTop (mkF m pc L (.long y :: .long x :: S))) := by
  subst hp; exact kk.on fun _ k => XS.lmul X.here hx rfl hd rfl k
theorem o_land (X : Stand p l e R s m args below meth c T locs cells slots) (hx : p.tables.exec = Jvm.exec) {x y : Int64} (hd : decode c.code pc = .ok (.land, 1)) (hp : pc + 1 = pc') (kk : Goes p.tables e below P (T.setTop (mkF m pc' L (.long (x &&& y) :: S)))) : Goes p.tables e below P (T.setTop (mkF m pc L (.long y :: .long x :: S))) := by
  subst hp; exact kk.on fun _ k => XS.land X.here hx rfl hd rfl k
theorem o_lor (X : Stand p l e R s m args below meth c T locs cells slots) (hx : p.tables.exec = Jvm.exec) {x y : Int64} (hd : decode c.code pc = .ok (.lor, 1)) (hp : pc + 1 = pc') (kk : Goes p.tables e below P (T.setTop (mkF m pc' L (.long (x ||| y) :: S)))) : Goes p.tables e below P (T.setTop (mkF m pc L (.long y :: .long x :: S))) := by
  subst hp; exact kk.on fun _ k => XS.lor X.here hx rfl hd rfl k
theorem o_lxor (X : Stand p l e R s m args below meth c T locs cells slots) (hx : p.tables.exec = Jvm.exec) {x y : Int64} (hd : decode c.code pc = .ok (.lxor, 1)) (hp : pc + 1 = pc') (kk : Goes p.tables e below P (T.setTop (mkF m pc' L (.long (x ^^^ y) :: S)))) : Goes p.tables e below P (T.setTop (mkF m pc L (.long y :: .long x :: S))) := by
  subst hp; exact kk.on fun _ k => XS.lxor X.here hx rfl hd rfl k
theorem o_lshl (X : Stand p l e R s m args below meth c T locs cells slots) (hx : p.tables.exec = Jvm.exec) {x : Int64} {y : Int32} (hd : decode c.code pc = .ok (.lshl, 1)) (hp : pc + 1 = pc') (kk : Goes p.tables e below P (T.setTop (mkF m pc' L (.long (x <<< (y &&& 0x3f).toInt64) :: S)))) : Goes p.tables e below P (T.setTop (mkF m pc L (.int y :: .long x :: S))) := by
  subst hp; exact kk.on fun _ k => XS.lshl X.here hx rfl hd rfl k
theorem o_lshr (X : Stand p l e R s m args below meth c T locs cells slots) (hx : p.tables.exec = Jvm.exec) {x : Int64} {y : Int32} (hd : decode c.code pc = .ok (.lshr, 1)) (hp : pc + 1 = pc') (kk : Goes p.tables e below P (T.setTop (mkF m pc' L (.long (x >>> (y &&& 0x3f).toInt64) :: S)))) : Goes p.tables e below P (T.setTop (mkF m pc L (.int y :: .long x :: S))) := by
  subst hp; exact kk.on fun _ k => XS.lshr X.here hx rfl hd rfl k
theorem o_lushr (X : Stand p l e R s m args below meth c T locs cells slots) (hx : p.tables.exec = Jvm.exec) {x : Int64} {y : Int32} (hd : decode c.code pc = .ok (.lushr, 1)) (hp : pc + 1 = pc') (kk : Goes p.tables e below P (T.setTop (mkF m pc' L (.long ((x.toUInt64 >>> (y &&& 0x3f).toInt64.toUInt64).toInt64) :: S)))) : Goes p.tables e below P (T.setTop (mkF m pc L (.int y :: .long x :: S))) := by
  subst hp; exact kk.on fun _ k => XS.lushr X.here hx rfl hd rfl k
theorem o_idiv (X : Stand p l e R s m args below meth c T locs cells slots) (hx : p.tables.exec = Jvm.exec) {x y : Int32} (hd : decode c.code pc = .ok (.idiv, 1)) (hy : y ≠ 0) (hp : pc + 1 = pc') (kk : Goes p.tables e below P (T.setTop (mkF m pc' L (.int (x / y) :: S)))) : Goes p.tables e below P (T.setTop (mkF m pc L (.int y :: .int x :: S))) := by
  subst hp; exact kk.on fun _ k => XS.idiv X.here hx rfl hd rfl hy k
theorem o_ldiv (X : Stand p l e R s m args below meth c T locs cells slots) (hx : p.tables.exec = Jvm.exec) {x y : Int64} (hd : decode c.code pc = .ok (.ldiv, 1)) (hy : y ≠ 0) (hp : pc + 1 = pc') (kk : Goes p.tables e below P (T.setTop (mkF m pc' L (.long (x / y) :: S)))) : Goes p.tables e below P (T.setTop (mkF m pc L (.long y :: .long x :: S))) := by
  subst hp; exact kk.on fun _ k => XS.ldiv X.here hx rfl hd rfl hy k
theorem o_lrem (X : Stand p l e R s m args below meth c T locs cells slots) (hx : p.tables.exec = Jvm.exec) {x y : Int64} (hd : decode c.code pc = .ok (.lrem, 1)) (hy : y ≠ 0) (hp : pc + 1 = pc') (kk : Goes p.tables e below P (T.setTop (mkF m pc' L (.long (x - (x / y) * y) :: S)))) : Goes p.tables e below P (T.setTop (mkF m pc L (.long y :: .long x :: S))) := by
  subst hp; exact kk.on fun _ k => XS.lrem X.here hx rfl hd rfl hy k
theorem o_irem (X : Stand p l e R s m args below meth c T locs cells slots) (hx : p.tables.exec = Jvm.exec) {x y : Int32} (hd : decode c.code pc = .ok (.irem, 1)) (hy : y ≠ 0) (hp : pc + 1 = pc') (kk : Goes p.tables e below P (T.setTop (mkF m pc' L (.int (x % y) :: S)))) : Goes p.tables e below P (T.setTop (mkF m pc L (.int y :: .int x :: S))) := by
  subst hp; exact kk.on fun _ k => iremM X hx rfl hd rfl hy k
theorem o_i2l (X : Stand p l e R s m args below meth c T locs cells slots) (hx : p.tables.exec = Jvm.exec) {x : Int32} (hd : decode c.code pc = .ok (.i2l, 1)) (hp : pc + 1 = pc') (kk : Goes p.tables e below P (T.setTop (mkF m pc' L (.long (x.toInt64) :: S)))) : Goes p.tables e below P (T.setTop (mkF m pc L (.int x :: S))) := by
  subst hp; exact kk.on fun _ k => XS.i2l X.here hx rfl hd rfl k
theorem o_l2i (X : Stand p l e R s m args below meth c T locs cells slots) (hx : p.tables.exec = Jvm.exec) {x : Int64} (hd : decode c.code pc = .ok (.l2i, 1)) (hp : pc + 1 = pc') (kk : Goes p.tables e below P (T.setTop (mkF m pc' L (.int (x.toInt32) :: S)))) : Goes p.tables e below P (T.setTop (mkF m pc L (.long x :: S))) := by
  subst hp; exact kk.on fun _ k => XS.l2i X.here hx rfl hd rfl k
theorem o_i2b (X : Stand p l e R s m args below meth c T locs cells slots) (hx : p.tables.exec = Jvm.exec) {x : Int32} (hd : decode c.code pc = .ok (.i2b, 1)) (hp : pc + 1 = pc') (kk : Goes p.tables e below P (T.setTop (mkF m pc' L (.int (x.toInt8.toInt32) :: S)))) : Goes p.tables e below P (T.setTop (mkF m pc L (.int x :: S))) := by
  subst hp; exact kk.on fun _ k => XS.i2b X.here hx rfl hd rfl k
theorem o_i2s (X : Stand p l e R s m args below meth c T locs cells slots) (hx : p.tables.exec = Jvm.exec) {x : Int32} (hd : decode c.code pc = .ok (.i2s, 1)) (hp : pc + 1 = pc') (kk : Goes p.tables e below P (T.setTop (mkF m pc' L (.int (x.toInt16.toInt32) :: S)))) : Goes p.tables e below P (T.setTop (mkF m pc L (.int x :: S))) := by
  subst hp; exact kk.on fun _ k => XS.i2s X.here hx rfl hd rfl k
theorem o_i2c (X : Stand p l e R s m args below meth c T locs cells slots) (hx : p.tables.exec = Jvm.exec) {x : Int32} (hd : decode c.code pc = .ok (.i2c, 1)) (hp : pc + 1 = pc') (kk : Goes p.tables e below P (T.setTop (mkF m pc' L (.int (x.toUInt32.toUInt16.toUInt32.toInt32) :: S)))) : Goes p.tables e below P (T.setTop (mkF m pc L (.int x :: S))) := by
  subst hp; exact kk.on fun _ k => XS.i2c X.here hx rfl hd rfl k
theorem o_ineg (X : Stand p l e R s m args below meth c T locs cells slots) (hx : p.tables.exec = Jvm.exec) {x : Int32} (hd : decode c.code pc = .ok (.ineg, 1)) (hp : pc + 1 = pc') (kk : Goes p.tables e below P (T.setTop (mkF m pc' L (.int (-x) :: S)))) : Goes p.tables e below P (T.setTop (mkF m pc L (.int x :: S))) := by
  subst hp; exact kk.on fun _ k => XS.ineg X.here hx rfl hd rfl k
theorem o_lneg (X : Stand p l e R s m args below meth c T locs cells slots) (hx : p.tables.exec = Jvm.exec) {x : Int64} (hd : decode c.code pc = .ok (.lneg, 1)) (hp : pc + 1 = pc') (kk : Goes p.tables e below P (T.setTop (mkF m pc' L (.long (-x) :: S)))) : Goes p.tables e below P (T.setTop (mkF m pc L (.long x :: S))) := by
  subst hp; exact kk.on fun _ k => XS.lneg X.here hx rfl hd rfl k
theorem o_lcmp (X : Stand p l e R s m args below meth c T locs cells slots) (hx : p.tables.exec = Jvm.exec) {x y : Int64} (hd : decode c.code pc = .ok (.lcmp, 1)) (hp : pc + 1 = pc') (kk : Goes p.tables e below P (T.setTop (mkF m pc' L (.int (lcmpW x y) :: S)))) : Goes p.tables e below P (T.setTop (mkF m pc L (.long y :: .long x :: S))) := by
  subst hp; exact kk.on fun _ k => XS.lcmp X.here hx rfl hd rfl k
theorem o_dup (X : Stand p l e R s m args below meth c T locs cells slots) (hx : p.tables.exec = Jvm.exec) {x : Value} (hd : decode c.code pc = .ok (.dup, 1)) (hc : x.category = 1) (hp : pc + 1 = pc') (kk : Goes p.tables e below P (T.setTop (mkF m pc' L (x :: x :: S)))) : Goes p.tables e below P (T.setTop (mkF m pc L (x :: S))) := by
  subst hp; exact kk.on fun _ k => XS.dup X.here hx rfl hd rfl hc k
theorem o_pop (X : Stand p l e R s m args below meth c T locs cells slots) (hx : p.tables.exec = Jvm.exec) {x : Value} (hd : decode c.code pc = .ok (.pop, 1)) (hc : x.category = 1) (hp : pc + 1 = pc') (kk : Goes p.tables e below P (T.setTop (mkF m pc' L S))) : Goes p.tables e below P (T.setTop (mkF m pc L (x :: S))) := by
  subst hp; exact kk.on fun _ k => XS.pop X.here hx rfl hd rfl hc k
theorem o_dup2 (X : Stand p l e R s m args below meth c T locs cells slots) (hx : p.tables.exec = Jvm.exec) {x y : Value} (hd : decode c.code pc = .ok (.dup2, 1)) (hc : x.category = 1) (hc2 : y.category = 1) (hp : pc + 1 = pc') (kk : Goes p.tables e below P (T.setTop (mkF m pc' L (x :: y :: x :: y :: S)))) : Goes p.tables e below P (T.setTop (mkF m pc L (x :: y :: S))) := by
  subst hp; exact kk.on fun _ k => Jvm.Free.XT.dup2 X.here hx rfl hd rfl hc hc2 k
theorem o_dupX1 (X : Stand p l e R s m args below meth c T locs cells slots) (hx : p.tables.exec = Jvm.exec) {x y : Value} (hd : decode c.code pc = .ok (.dup_x1, 1)) (hc : x.category = 1) (hc2 : y.category = 1) (hp : pc + 1 = pc') (kk : Goes p.tables e below P (T.setTop (mkF m pc' L (x :: y :: x :: S)))) : Goes p.tables e below P (T.setTop (mkF m pc L (x :: y :: S))) := by
  subst hp; exact kk.on fun _ k => XS.dupX1 X.here hx rfl hd rfl hc hc2 k
theorem o_iinc (X : Stand p l e R s m args below meth c T locs cells slots) (hx : p.tables.exec = Jvm.exec) {k : Nat} {cst : Int} {x v : Int32} (hd : decode c.code pc = .ok (.iinc k cst, 3)) (hl : L[k]? = some (.val (.int x))) (hv : x + Int32.ofInt cst = v) (hl' : storeLocals L k (.int v) = some L') (hp : pc + 3 = pc') (kk : Goes p.tables e below P (T.setTop (mkF m pc' L' S))) : Goes p.tables e below P (T.setTop (mkF m pc L S)) := by
  subst hp; subst hv; exact kk.on fun _ k => XS.iinc X.here hx rfl hd hl hl' k
theorem o_goto (X : Stand p l e R s m args below meth c T locs cells slots) (hx : p.tables.exec = Jvm.exec)  {o : Int} (hd : decode c.code pc = .ok (.goto o, 3)) (ho : 0 ≤ (pc : Int) + o) (hp : ((pc : Int) + o).toNat = pc') (kk : Goes p.tables e below P (T.setTop (mkF m pc' L S))) : Goes p.tables e below P (T.setTop (mkF m pc L S)) :=
  kk.on fun _ k => XS.goto X.here hx rfl (pc0 := pc) rfl hd  ho hp k
theorem o_ifYes (X : Stand p l e R s m args below meth c T locs cells slots) (hx : p.tables.exec = Jvm.exec) {cd : ClassFile.Cond} {x : Int32} {o : Int} (hd : decode c.code pc = .ok (.ifCond cd o, 3)) (hc : ifCond.holds cd x = true) (ho : 0 ≤ (pc : Int) + o) (hp : ((pc : Int) + o).toNat = pc') (kk : Goes p.tables e below P (T.setTop (mkF m pc' L S))) : Goes p.tables e below P (T.setTop (mkF m pc L (.int x :: S))) :=
  kk.on fun _ k => XS.ifYes X.here hx rfl (pc0 := pc) rfl hd rfl hc ho hp k
theorem o_icmpYes (X : Stand p l e R s m args below meth c T locs cells slots) (hx : p.tables.exec = Jvm.exec) {cd : ClassFile.Cond} {x y : Int32} {o : Int} (hd : decode c.code pc = .ok (.if_icmp cd o, 3)) (hc : if_icmp.holds cd x y = true) (ho : 0 ≤ (pc : Int) + o) (hp : ((pc : Int) + o).toNat = pc') (kk : Goes p.tables e below P (T.setTop (mkF m pc' L S))) : Goes p.tables e below P (T.setTop (mkF m pc L (.int y :: .int x :: S))) :=
  kk.on fun _ k => XS.icmpYes X.here hx rfl (pc0 := pc) rfl hd rfl hc ho hp k
theorem o_ifnullYes (X : Stand p l e R s m args below meth c T locs cells slots) (hx : p.tables.exec = Jvm.exec)  {o : Int} (hd : decode c.code pc = .ok (.ifnull o, 3)) (ho : 0 ≤ (pc : Int) + o) (hp : ((pc : Int) + o).toNat = pc') (kk : Goes p.tables e below P (T.setTop (mkF m pc' L S))) : Goes p.tables e below P (T.setTop (mkF m pc L (.null :: S))) :=
  kk.on fun _ k => XS.ifnullYes X.here hx rfl (pc0 := pc) rfl hd rfl ho hp k
theorem o_ifnonnullYes (X : Stand p l e R s m args below meth c T locs cells slots) (hx : p.tables.exec = Jvm.exec) {b : Addr} {o : Int} (hd : decode c.code pc = .ok (.ifnonnull o, 3)) (ho : 0 ≤ (pc : Int) + o) (hp : ((pc : Int) + o).toNat = pc') (kk : Goes p.tables e below P (T.setTop (mkF m pc' L S))) : Goes p.tables e below P (T.setTop (mkF m pc L (.ref b :: S))) :=
  kk.on fun _ k => XS.ifnonnullYes X.here hx rfl (pc0 := pc) rfl hd rfl ho hp k
theorem o_ifNo (X : Stand p l e R s m args below meth c T locs cells slots) (hx : p.tables.exec = Jvm.exec) {cd : ClassFile.Cond} {o : Int} {x : Int32} (hd : decode c.code pc = .ok (.ifCond cd o, 3)) (hc : ifCond.holds cd x = false) (hp : pc + 3 = pc') (kk : Goes p.tables e below P (T.setTop (mkF m pc' L S))) : Goes p.tables e below P (T.setTop (mkF m pc L (.int x :: S))) := by
  subst hp; exact kk.on fun _ k => XS.ifNo X.here hx rfl hd rfl hc k
theorem o_icmpNo (X : Stand p l e R s m args below meth c T locs cells slots) (hx : p.tables.exec = Jvm.exec) {cd : ClassFile.Cond} {o : Int} {x y : Int32} (hd : decode c.code pc = .ok (.if_icmp cd o, 3)) (hc : if_icmp.holds cd x y = false) (hp : pc + 3 = pc') (kk : Goes p.tables e below P (T.setTop (mkF m pc' L S))) : Goes p.tables e below P (T.setTop (mkF m pc L (.int y :: .int x :: S))) := by
  subst hp; exact kk.on fun _ k => XS.icmpNo X.here hx rfl hd rfl hc k
theorem o_ifnullNo (X : Stand p l e R s m args below meth c T locs cells slots) (hx : p.tables.exec = Jvm.exec) {o : Int} {b : Addr} (hd : decode c.code pc = .ok (.ifnull o, 3)) (hp : pc + 3 = pc') (kk : Goes p.tables e below P (T.setTop (mkF m pc' L S))) : Goes p.tables e below P (T.setTop (mkF m pc L (.ref b :: S))) := by
  subst hp; exact kk.on fun _ k => XS.ifnullNo X.here hx rfl hd rfl k
theorem o_ifnonnullNo (X : Stand p l e R s m args below meth c T locs cells slots) (hx : p.tables.exec = Jvm.exec) {o : Int} (hd : decode c.code pc = .ok (.ifnonnull o, 3)) (hp : pc + 3 = pc') (kk : Goes p.tables e below P (T.setTop (mkF m pc' L S))) : Goes p.tables e below P (T.setTop (mkF m pc L (.null :: S))) := by
  subst hp; exact kk.on fun _ k => XS.ifnonnullNo X.here hx rfl hd rfl k
theorem o_acmp (X : Stand p l e R s m args below meth c T locs cells slots) (hx : p.tables.exec = Jvm.exec) {cd : ACond} {x y : Value} {o : Int} {same : Bool} (hd : decode c.code pc = .ok (.if_acmp cd o, 3)) (h1 : x.isRef = true) (h2 : y.isRef = true) (hq : decide (x = y) = same) (ho : 0 ≤ (pc : Int) + o) (hp : pc' = if acV cd same = true then ((pc : Int) + o).toNat else pc + 3) (kk : Goes p.tables e below P (T.setTop (mkF m pc' L S))) : Goes p.tables e below P (T.setTop (mkF m pc L (y :: x :: S))) :=
  kk.on fun _ k => Jvm.RoadKit.acmp (g := mkF m pc L (y :: x :: S)) X hx rfl h1 h2 (pc0 := pc) (pc' := pc') (same := same) rfl hd rfl hq ho hp k
theorem o_tswIn (X : Stand p l e R s m args below meth c T locs cells slots) (hx : p.tables.exec = Jvm.exec) {dflt low high : Int} {offs : Array Int} {len : Nat} {o : Int} {i : Int32} (hd : decode c.code pc = .ok (.tableswitch dflt low high offs, len)) (hin : ¬ (i.toInt < low ∨ i.toInt > high)) (hoff : offs[(i.toInt - low).toNat]? = some o) (ho : 0 ≤ (pc : Int) + o) (hp : ((pc : Int) + o).toNat = pc') (kk : Goes p.tables e below P (T.setTop (mkF m pc' L S))) : Goes p.tables e below P (T.setTop (mkF m pc L (.int i :: S))) :=
  kk.on fun _ k => XS.tswIn X.here hx rfl (pc0 := pc) rfl hd rfl hin hoff ho hp k
theorem o_tswOut (X : Stand p l e R s m args below meth c T locs cells slots) (hx : p.tables.exec = Jvm.exec) {dflt low high : Int} {offs : Array Int} {len : Nat} {i : Int32} (hd : decode c.code pc = .ok (.tableswitch dflt low high offs, len)) (hout : i.toInt < low ∨ i.toInt > high) (ho : 0 ≤ (pc : Int) + dflt) (hp : ((pc : Int) + dflt).toNat = pc') (kk : Goes p.tables e below P (T.setTop (mkF m pc' L S))) : Goes p.tables e below P (T.setTop (mkF m pc L (.int i :: S))) :=
  kk.on fun _ k => XS.tswOut X.here hx rfl (pc0 := pc) rfl hd rfl hout ho hp k
theorem o_getF (X : Stand p l e R s m args below meth c T locs cells slots) (hx : p.tables.exec = Jvm.exec) (hZ : Z.Warmed39 s.vm) {own R0 O n d host : String} {index : Nat} (hown : s.vm.findClass own = some m.cls) (w : (Cond.fieldLink own index R0 n d).before a0 Z = true ∨ (Cond.fieldLinkNest own index R0 n d host).before a0 Z = true) (via : Via Z R0 O n d) (eT : T.heap = h) {a : Addr} {v : Value} (F : Fld Z h a O n d v) (hd : decode c.code pc = .ok (.getfield index, 3)) (hp : pc + 3 = pc')
    (kk : ∀ T', Stand p l e R s m args below meth c T' locs cells slots → T'.heap = h → Goes p.tables e below P (T'.setTop (mkF m pc' L (v :: S)))) : Goes p.tables e below P (T.setTop (mkF m pc L (.ref a :: S))) := by
  subst hp
  obtain ⟨T', X', e', st⟩ := getF X hx hZ hown w via eT F (g := mkF m pc L (.ref a :: S)) rfl rfl hd
  exact (kk T' X' e').on st
theorem o_getS (X : Stand p l e R s m args below meth c T locs cells slots) (hx : p.tables.exec = Jvm.exec) (hZ : Z.Warmed39 s.vm) {own R0 O n d host : String} {index : Nat} (hown : s.vm.findClass own = some m.cls) (w : (Cond.fieldLink own index R0 n d).before a0 Z = true ∨ (Cond.fieldLinkNest own index R0 n d host).before a0 Z = true) (via : Via Z R0 O n d) (eT : T.heap = h) {v : Value} (F : Sta Z h O n d v) (hd : decode c.code pc = .ok (.getstatic index, 3)) (hp : pc + 3 = pc')
    (kk : ∀ T', Stand p l e R s m args below meth c T' locs cells slots → T'.heap = h → Goes p.tables e below P (T'.setTop (mkF m pc' L (v :: S)))) : Goes p.tables e below P (T.setTop (mkF m pc L S)) := by
  subst hp
  obtain ⟨T', X', e', st⟩ := getS2 X hx hZ hown w via eT F (g := mkF m pc L S) rfl hd
  exact (kk T' X' e').on st
theorem o_putF (X : Stand p l e R s m args below meth c T locs cells slots) (hx : p.tables.exec = Jvm.exec) (hZ : Z.Warmed39 s.vm) {own R0 O n d host C : String} {index kk0 : Nat} {ty : FieldType} (hown : s.vm.findClass own = some m.cls) (w : (Cond.fieldLink own index R0 n d).before a0 Z = true ∨ (Cond.fieldLinkNest own index R0 n d host).before a0 Z = true) (via : Via Z R0 O n d) (eT : T.heap = h) {a : Addr} {v old : Value} (F : Fld Z h a O n d old) (E : Exa Z h a C) (Lw : (Cond.lays C O n d).before a0 Z = true ∨ ((Cond.laysFinal C O n d).before a0 Z = true ∧ own = O ∧ meth.name = "<init>")) (wi : (Cond.instantiable C kk0).before a0 Z = true)
    (hty : parseFieldDescriptor d = some ty) (hn : narrow ty v = v) (hf : fits ty v = true) (hd : decode c.code pc = .ok (.putfield index, 3)) (hp : pc + 3 = pc')
    (kk : ∀ T' h', Stand p l e R s m args below meth c T' (locs ++ [⟨a, Jvm.RoadKit.slotOf Z O n d⟩]) cells slots → T'.heap = h' → Wr h h' a (Jvm.RoadKit.slotOf Z O n d) v → Goes p.tables e below P (T'.setTop (mkF m pc' L S))) : Goes p.tables e below P (T.setTop (mkF m pc L (v :: .ref a :: S))) := by
  subst hp
  obtain ⟨T', h', X', e', W', st⟩ := putF X hx hZ hown w via eT F E Lw wi hty hn hf (g := mkF m pc L (v :: .ref a :: S)) rfl rfl hd
  exact (kk T' h' X' e' W').on st
theorem o_new (X : Stand p l e R s m args below meth c T locs cells slots) (hx : p.tables.exec = Jvm.exec) (hZ : Z.Warmed39 s.vm) {own C : String} {index n : Nat} (hown : s.vm.findClass own = some m.cls) (w : (Cond.classLink own index C).before a0 Z = true) (wi : (Cond.instantiable C n).before a0 Z = true) (wz : (Cond.initialized C).before a0 Z = true) (eT : T.heap = h) (hd : decode c.code pc = .ok (.new index, 3)) (hc : cells + 1 ≤ R.cells) (hl : slots + n ≤ R.slots) (hc' : cells + 1 = cells') (hs' : slots + n = slots') (hp : pc + 3 = pc')
    (kk : ∀ T' h' b, b = h.size → Stand p l e R s m args below meth c T' locs cells' slots' → T'.heap = h' → Ext h h' → Exa Z h' b C → (∀ {O nm d : String} {ty : FieldType}, Laid Z a0 C O nm d → parseFieldDescriptor d = some ty → Fld Z h' b O nm d (defaultValue ty)) → Goes p.tables e below P (T'.setTop (mkF m pc' L (.ref b :: S)))) : Goes p.tables e below P (T.setTop (mkF m pc L S)) := by
  subst hp hc' hs'
  obtain ⟨T', h', X', e', E', A', D', -, st⟩ := newO X hx hZ hown w wi wz eT (g := mkF m pc L S) rfl hd hc hl
  exact (kk T' h' _ rfl X' e' E' A' D').on st
theorem o_newP (X : Stand p l e R s m args below meth c T locs cells slots) (hx : p.tables.exec = Jvm.exec) (hZ : Z.Warmed39 s.vm) {aty : ArrayType} (w : (Cond.arrayClass (newarray.typeOf aty)).before a0 Z = true) (eT : T.heap = h) (hd : decode c.code pc = .ok (.newarray aty, 2)) {n : Int32} (hn : ¬ n < 0) {cap : Nat} (hcap : n.toNatClampNeg ≤ cap) (hb : cap * 8 ≤ 536870912) (hc : cells + 1 ≤ R.cells) (hl : slots + cap ≤ R.slots) (hc' : cells + 1 = cells') (hs' : slots + cap = slots') (hp : pc + 2 = pc')
    (kk : ∀ T' h' k b, b = h.size → Stand p l e R s m args below meth c T' locs cells' slots' → T'.heap = h' → Ext h h' → Arr Z h' b (newA k (newarray.typeOf aty) n) (newarray.typeOf aty) → Goes p.tables e below P (T'.setTop (mkF m pc' L (.ref b :: S)))) : Goes p.tables e below P (T.setTop (mkF m pc L (.int n :: S))) := by
  subst hp hc' hs'
  obtain ⟨T', h', k, X', e', E', A', st⟩ := newP X hx hZ w eT (g := mkF m pc L (.int n :: S)) rfl hd rfl hn hcap hb hc hl
  exact (kk T' h' k _ rfl X' e' E' A').on st
theorem o_initO (X : Stand p l e R s m args below meth c T locs cells slots) (hx : p.tables.exec = Jvm.exec) (hZ : Z.Warmed39 s.vm) {own : String} {idx : Nat} (hown : s.vm.findClass own = some m.cls) (w1 : (Cond.methodLink own idx Lib.objectInit).before a0 Z = true) (w2 : (Cond.instanceMethod Lib.objectInit).before a0 Z = true) (w3 : (Cond.code Lib.objectInit ⟨#[0xb1]⟩ 1 none).before a0 Z = true) (eT : T.heap = h) (hsize : L.size = c.maxLocals) {a : Addr} (hd : decode c.code pc = .ok (.invokespecial idx, 3)) (hf : 1 ≤ R.frames) {W : Nat} (hW : (S.map fun v => v.category).sum = W) (hl : W + 12 ≤ R.locals) (hp : pc + 3 = pc')
    (kk : ∀ T', Stand p l e R s m args below meth c T' locs cells slots → T'.heap = h → Goes p.tables e below P (T'.setTop (mkF m pc' L S))) : Goes p.tables e below P (T.setTop (mkF m pc L (.ref a :: S))) := by
  subst hp
  obtain ⟨T', X', e', st⟩ := initO X hx hZ hown w1 w2 w3 eT (g := mkF m pc L (.ref a :: S)) rfl hsize rfl hd hf (W := W) (by rw [← hW]; show 2 * 0 + _ ≤ _; omega) hl
  exact (kk T' X' e').on st
theorem o_stI (X : Stand p l e R s m args below meth c T locs cells slots) (hx : p.tables.exec = Jvm.exec) (hZ : Z.Warmed39 s.vm) (eT : T.heap = h) {a : Addr} {kc : ClassId} {z : Int32} {vs : List Value} {dv : Value} (A : Arv Z h a kc .int z vs dv) {j : Int32} {x : Int32} {i : Nat} (hj : ¬ j < 0 ∧ j < z) (hi : j.toNatClampNeg = i) (hv : i < vs.length) (hd : decode c.code pc = .ok (.iastore, 1)) (hp : pc + 1 = pc')
    (kk : ∀ T' h', Stand p l e R s m args below meth c T' (locs ++ [⟨a, i⟩]) cells slots → T'.heap = h' → Wr h h' a i (.int x) → Arv Z h' a kc .int z (vs.set i (.int x)) dv → Goes p.tables e below P (T'.setTop (mkF m pc' L S))) : Goes p.tables e below P (T.setTop (mkF m pc L ((.int x) :: .int j :: .ref a :: S))) := by
  subst hp
  obtain ⟨cl, A1, q1, S1, N1, H1, G1⟩ := A
  obtain ⟨T', h', X', e', W', st⟩ := stI X hx hZ eT A1 (j := j) (x := x) (inb_of S1 hj) (g := mkF m pc L ((.int x) :: .int j :: .ref a :: S)) rfl rfl hd
  have V' := Arv.set A1 q1 S1 N1 H1 G1 (rfl) W' i hi hv
  rw [hi] at X' W'
  exact (kk T' h' X' e' W' V').on st
theorem o_stJ (X : Stand p l e R s m args below meth c T locs cells slots) (hx : p.tables.exec = Jvm.exec) (hZ : Z.Warmed39 s.vm) (eT : T.heap = h) {a : Addr} {kc : ClassId} {z : Int32} {vs : List Value} {dv : Value} (A : Arv Z h a kc .long z vs dv) {j : Int32} {x : Int64} {i : Nat} (hj : ¬ j < 0 ∧ j < z) (hi : j.toNatClampNeg = i) (hv : i < vs.length) (hd : decode c.code pc = .ok (.lastore, 1)) (hp : pc + 1 = pc')
    (kk : ∀ T' h', Stand p l e R s m args below meth c T' (locs ++ [⟨a, i⟩]) cells slots → T'.heap = h' → Wr h h' a i (.long x) → Arv Z h' a kc .long z (vs.set i (.long x)) dv → Goes p.tables e below P (T'.setTop (mkF m pc' L S))) : Goes p.tables e below P (T.setTop (mkF m pc L ((.long x) :: .int j :: .ref a :: S))) := by
  subst hp
  obtain ⟨cl, A1, q1, S1, N1, H1, G1⟩ := A
  obtain ⟨T', h', X', e', W', st⟩ := stJ X hx hZ eT A1 (j := j) (x := x) (inb_of S1 hj) (g := mkF m pc L ((.long x) :: .int j :: .ref a :: S)) rfl rfl hd
  have V' := Arv.set A1 q1 S1 N1 H1 G1 (rfl) W' i hi hv
  rw [hi] at X' W'
  exact (kk T' h' X' e' W' V').on st
theorem o_stC (X : Stand p l e R s m args below meth c T locs cells slots) (hx : p.tables.exec = Jvm.exec) (hZ : Z.Warmed39 s.vm) (eT : T.heap = h) {a : Addr} {kc : ClassId} {z : Int32} {vs : List Value} {dv : Value} (A : Arv Z h a kc .char z vs dv) {j : Int32} {x : Int32} {i : Nat} (hj : ¬ j < 0 ∧ j < z) (hi : j.toNatClampNeg = i) (hv : i < vs.length) (hd : decode c.code pc = .ok (.castore, 1)) (hp : pc + 1 = pc')
    (kk : ∀ T' h', Stand p l e R s m args below meth c T' (locs ++ [⟨a, i⟩]) cells slots → T'.heap = h' → Wr h h' a i (.int (nar .char x)) → Arv Z h' a kc .char z (vs.set i (.int (nar .char x))) dv → Goes p.tables e below P (T'.setTop (mkF m pc' L S))) : Goes p.tables e below P (T.setTop (mkF m pc L ((.int x) :: .int j :: .ref a :: S))) := by
  subst hp
  obtain ⟨cl, A1, q1, S1, N1, H1, G1⟩ := A
  obtain ⟨T', h', X', e', W', st⟩ := stC X hx hZ eT A1 (j := j) (x := x) (inb_of S1 hj) (g := mkF m pc L ((.int x) :: .int j :: .ref a :: S)) rfl rfl hd
  have V' := Arv.set A1 q1 S1 N1 H1 G1 (fits_nar_char _) W' i hi hv
  rw [hi] at X' W'
  exact (kk T' h' X' e' W' V').on st
theorem o_stB (X : Stand p l e R s m args below meth c T locs cells slots) (hx : p.tables.exec = Jvm.exec) (hZ : Z.Warmed39 s.vm) (eT : T.heap = h) {a : Addr} {kc : ClassId} {z : Int32} {vs : List Value} {dv : Value} (A : Arv Z h a kc .byte z vs dv) {j : Int32} {x : Int32} {i : Nat} (hj : ¬ j < 0 ∧ j < z) (hi : j.toNatClampNeg = i) (hv : i < vs.length) (hd : decode c.code pc = .ok (.bastore, 1)) (hp : pc + 1 = pc')
    (kk : ∀ T' h', Stand p l e R s m args below meth c T' (locs ++ [⟨a, i⟩]) cells slots → T'.heap = h' → Wr h h' a i (.int (nar .byte x)) → Arv Z h' a kc .byte z (vs.set i (.int (nar .byte x))) dv → Goes p.tables e below P (T'.setTop (mkF m pc' L S))) : Goes p.tables e below P (T.setTop (mkF m pc L ((.int x) :: .int j :: .ref a :: S))) := by
  subst hp
  obtain ⟨cl, A1, q1, S1, N1, H1, G1⟩ := A
  obtain ⟨T', h', X', e', W', st⟩ := stB X hx hZ eT A1 (j := j) (x := x) (inb_of S1 hj) (g := mkF m pc L ((.int x) :: .int j :: .ref a :: S)) rfl rfl hd
  have V' := Arv.set A1 q1 S1 N1 H1 G1 (fits_nar_byte _) W' i hi hv
  rw [hi] at X' W'
  exact (kk T' h' X' e' W' V').on st
theorem o_stZ (X : Stand p l e R s m args below meth c T locs cells slots) (hx : p.tables.exec = Jvm.exec) (hZ : Z.Warmed39 s.vm) (eT : T.heap = h) {a : Addr} {kc : ClassId} {z : Int32} {vs : List Value} {dv : Value} (A : Arv Z h a kc .boolean z vs dv) {j : Int32} {x : Int32} {i : Nat} (hj : ¬ j < 0 ∧ j < z) (hi : j.toNatClampNeg = i) (hv : i < vs.length) (hd : decode c.code pc = .ok (.bastore, 1)) (hp : pc + 1 = pc')
    (kk : ∀ T' h', Stand p l e R s m args below meth c T' (locs ++ [⟨a, i⟩]) cells slots → T'.heap = h' → Wr h h' a i (.int (nar .boolean x)) → Arv Z h' a kc .boolean z (vs.set i (.int (nar .boolean x))) dv → Goes p.tables e below P (T'.setTop (mkF m pc' L S))) : Goes p.tables e below P (T.setTop (mkF m pc L ((.int x) :: .int j :: .ref a :: S))) := by
  subst hp
  obtain ⟨cl, A1, q1, S1, N1, H1, G1⟩ := A
  obtain ⟨T', h', X', e', W', st⟩ := stZ X hx hZ eT A1 (j := j) (x := x) (inb_of S1 hj) (g := mkF m pc L ((.int x) :: .int j :: .ref a :: S)) rfl rfl hd
  have V' := Arv.set A1 q1 S1 N1 H1 G1 (fits_nar_bool _) W' i hi hv
  rw [hi] at X' W'
  exact (kk T' h' X' e' W' V').on st
theorem o_stD (X : Stand p l e R s m args below meth c T locs cells slots) (hx : p.tables.exec = Jvm.exec) (hZ : Z.Warmed39 s.vm) (eT : T.heap = h) {a : Addr} {kc : ClassId} {z : Int32} {vs : List Value} {dv : Value} (A : Arv Z h a kc .double z vs dv) {j : Int32} {x : UInt64} {i : Nat} (hj : ¬ j < 0 ∧ j < z) (hi : j.toNatClampNeg = i) (hv : i < vs.length) (hd : decode c.code pc = .ok (.dastore, 1)) (hp : pc + 1 = pc')
    (kk : ∀ T' h', Stand p l e R s m args below meth c T' (locs ++ [⟨a, i⟩]) cells slots → T'.heap = h' → Wr h h' a i (.double x) → Arv Z h' a kc .double z (vs.set i (.double x)) dv → Goes p.tables e below P (T'.setTop (mkF m pc' L S))) : Goes p.tables e below P (T.setTop (mkF m pc L ((.double x) :: .int j :: .ref a :: S))) := by
  subst hp
  obtain ⟨cl, A1, q1, S1, N1, H1, G1⟩ := A
  obtain ⟨T', h', X', e', W', st⟩ := stD X hx hZ eT A1 (j := j) (x := x) (inb_of S1 hj) (g := mkF m pc L ((.double x) :: .int j :: .ref a :: S)) rfl rfl hd
  have V' := Arv.set A1 q1 S1 N1 H1 G1 (rfl) W' i hi hv
  rw [hi] at X' W'
  exact (kk T' h' X' e' W' V').on st
theorem o_castY (X : Stand p l e R s m args below meth c T locs cells slots) (hx : p.tables.exec = Jvm.exec) (hZ : Z.Warmed39 s.vm) {own K : String} {index : Nat} (hown : s.vm.findClass own = some m.cls) (w : (Cond.classLink own index K).before a0 Z = true) (eT : T.heap = h) {a : Addr} (F : Ins Z h a K true) (hd : decode c.code pc = .ok (.checkcast index, 3)) (hp : pc + 3 = pc')
    (kk : ∀ T', Stand p l e R s m args below meth c T' locs cells slots → T'.heap = h → Goes p.tables e below P (T'.setTop (mkF m pc' L (.ref a :: S)))) : Goes p.tables e below P (T.setTop (mkF m pc L (.ref a :: S))) := by
  subst hp
  obtain ⟨T', X', e', st⟩ := castY X hx hZ hown w eT F (g := mkF m pc L (.ref a :: S)) rfl rfl hd
  exact (kk T' X' e').on st
theorem o_instY (X : Stand p l e R s m args below meth c T locs cells slots) (hx : p.tables.exec = Jvm.exec) (hZ : Z.Warmed39 s.vm) {own K : String} {index : Nat} (hown : s.vm.findClass own = some m.cls) (w : (Cond.classLink own index K).before a0 Z = true) (eT : T.heap = h) {a : Addr} (F : Ins Z h a K true) (hd : decode c.code pc = .ok (.instanceof index, 3)) (hp : pc + 3 = pc')
    (kk : ∀ T', Stand p l e R s m args below meth c T' locs cells slots → T'.heap = h → Goes p.tables e below P (T'.setTop (mkF m pc' L (.int 1 :: S)))) : Goes p.tables e below P (T.setTop (mkF m pc L (.ref a :: S))) := by
  subst hp
  obtain ⟨T', X', e', st⟩ := instY X hx hZ hown w eT F (g := mkF m pc L (.ref a :: S)) rfl rfl hd
  exact (kk T' X' e').on st
theorem o_instNo (X : Stand p l e R s m args below meth c T locs cells slots) (hx : p.tables.exec = Jvm.exec) (hZ : Z.Warmed39 s.vm) {own K C : String} {index : Nat} (hown : s.vm.findClass own = some m.cls) (w : (Cond.classLink own index K).before a0 Z = true) (eT : T.heap = h) {a : Addr} (E : Exa Z h a C) (F : ∃ c t, Z.vm.findClass C = some c ∧ Z.vm.findClass K = some t ∧ Z.vm.assignable c t = false) (hd : decode c.code pc = .ok (.instanceof index, 3)) (hp : pc + 3 = pc')
    (kk : ∀ T', Stand p l e R s m args below meth c T' locs cells slots → T'.heap = h → Goes p.tables e below P (T'.setTop (mkF m pc' L (.int 0 :: S)))) : Goes p.tables e below P (T.setTop (mkF m pc L (.ref a :: S))) := by
  subst hp
  obtain ⟨T', X', e', st⟩ := instNo X hx hZ hown w eT E F (g := mkF m pc L (.ref a :: S)) rfl rfl hd
  exact (kk T' X' e').on st
theorem o_static (X : Stand p l e R s m args below meth c T locs cells slots) (hx : p.tables.exec = Jvm.exec) (hZ : Z.Warmed39 s.vm) {own : String} {index : Nat} {y : MethodName} {bytes : ByteArray} {maxL : Nat} {ret : Option FieldType} (hown : s.vm.findClass own = some m.cls) (w1 : (Cond.methodLink own index y).before a0 Z = true) (w2 : (Cond.static y).before a0 Z = true) (hy : y.cls ≠ "java/lang/invoke/MethodHandle" ∧ y.cls ≠ "java/lang/invoke/VarHandle") {rm : Room} {as' : Array Value} {Q : Option Value → Heap → List Loc → Prop} (hM : Met l Z y bytes maxL ret rm [] as' h Q) (hwc : (Cond.code y bytes maxL ret).before a0 Z = true) (hwi : (Cond.initialized y.cls).before a0 Z = true) (eT : T.heap = h) (hsize : L.size = c.maxLocals) {argsL rest : List Value} {W : Nat} {ps : List FieldType} {rr : Option FieldType} (hpd : parseMethodDescriptor y.desc = some ⟨ps, rr⟩) (hlen : argsL.length = ps.length) (hst : S = argsL.reverse ++ rest) (has : as' = (argsL).toArray) (hW : (rest.map fun v => v.category).sum = W) (hd : decode c.code pc = .ok (.invokestatic index, 3)) (hf : rm.frames + 1 ≤ R.frames) (hlo : W + (maxL + 11) + rm.locals ≤ R.locals) (hc : cells + rm.cells ≤ R.cells) (hs : slots + rm.slots ≤ R.slots) (hc' : cells + rm.cells = cells') (hs' : slots + rm.slots = slots') (hp : pc + 3 = pc')
    (kk : ∀ v T' h' Lc, Stand p l e R s m args below meth c T' (locs ++ Lc) cells' slots' → T'.heap = h' → Q v h' Lc → Goes p.tables e below P (T'.setTop (mkF m pc' L (v.toList ++ rest)))) : Goes p.tables e below P (T.setTop (mkF m pc L S)) := by
  subst hp hc' hs' hst has
  obtain ⟨_, _, ⟨T1, L1, k1, n1⟩, -, X1, ⟨Lc, hQ, l1, y1, z1⟩, st⟩ := Jvm.LawKit.callS X hx hown (mvT hZ w1) (mvT hZ w2) (mvT hZ hwi) (mvT hZ hwc) hy (backOf (W := W) hM hZ hwc hwi hf hlo) (g := mkF m pc L (argsL.reverse ++ rest)) rfl hsize (argsL := argsL) (rest := rest) (lenOf hpd hlen) rfl (by rw [← hW]; show 2 * 0 + _ ≤ _; omega) hd (fun _ _ => ⟨rfl, eT, hc, hs⟩)
  dsimp only [Pt.U, Pt.locs, Pt.cells, Pt.slots] at X1 l1 y1 z1 st hQ
  subst l1 y1 z1
  exact (kk _ _ _ _ X1 rfl hQ).on st
theorem o_staticN (X : Stand p l e R s m args below meth c T locs cells slots) (hx : p.tables.exec = Jvm.exec) (hZ : Z.Warmed39 s.vm) {own host : String} {index : Nat} {y : MethodName} {bytes : ByteArray} {maxL : Nat} {ret : Option FieldType} (hown : s.vm.findClass own = some m.cls) (w1 : (Cond.methodLinkNest own index y host).before a0 Z = true) (w2 : (Cond.static y).before a0 Z = true) (hy : y.cls ≠ "java/lang/invoke/MethodHandle" ∧ y.cls ≠ "java/lang/invoke/VarHandle") {rm : Room} {as' : Array Value} {Q : Option Value → Heap → List Loc → Prop} (hM : Met l Z y bytes maxL ret rm [] as' h Q) (hwc : (Cond.code y bytes maxL ret).before a0 Z = true) (hwi : (Cond.initialized y.cls).before a0 Z = true) (eT : T.heap = h) (hsize : L.size = c.maxLocals) {argsL rest : List Value} {W : Nat} {ps : List FieldType} {rr : Option FieldType} (hpd : parseMethodDescriptor y.desc = some ⟨ps, rr⟩) (hlen : argsL.length = ps.length) (hst : S = argsL.reverse ++ rest) (has : as' = (argsL).toArray) (hW : (rest.map fun v => v.category).sum = W) (hd : decode c.code pc = .ok (.invokestatic index, 3)) (hf : rm.frames + 1 ≤ R.frames) (hlo : W + (maxL + 11) + rm.locals ≤ R.locals) (hc : cells + rm.cells ≤ R.cells) (hs : slots + rm.slots ≤ R.slots) (hc' : cells + rm.cells = cells') (hs' : slots + rm.slots = slots') (hp : pc + 3 = pc')
    (kk : ∀ v T' h' Lc, Stand p l e R s m args below meth c T' (locs ++ Lc) cells' slots' → T'.heap = h' → Q v h' Lc → Goes p.tables e below P (T'.setTop (mkF m pc' L (v.toList ++ rest)))) : Goes p.tables e below P (T.setTop (mkF m pc L S)) := by
  subst hp hc' hs' hst has
  obtain ⟨_, _, ⟨T1, L1, k1, n1⟩, -, X1, ⟨Lc, hQ, l1, y1, z1⟩, st⟩ := Jvm.RoadKit.callSN X hx hown (Cond.methodLinkNest_wide hZ w1) (mvT hZ w2) (mvT hZ hwi) (mvT hZ hwc) hy (backOf (W := W) hM hZ hwc hwi hf hlo) (g := mkF m pc L (argsL.reverse ++ rest)) rfl hsize (argsL := argsL) (rest := rest) (lenOf hpd hlen) rfl (by rw [← hW]; show 2 * 0 + _ ≤ _; omega) hd (fun _ _ => ⟨rfl, eT, hc, hs⟩)
  dsimp only [Pt.U, Pt.locs, Pt.cells, Pt.slots] at X1 l1 y1 z1 st hQ
  subst l1 y1 z1
  exact (kk _ _ _ _ X1 rfl hQ).to st
theorem o_special (X : Stand p l e R s m args below meth c T locs cells slots) (hx : p.tables.exec = Jvm.exec) (hZ : Z.Warmed39 s.vm) {own : String} {index : Nat} {y : MethodName} {bytes : ByteArray} {maxL : Nat} {ret : Option FieldType} (hr : ret = none) (hy1 : y.name = "<init>") (hown : s.vm.findClass own = some m.cls) (w1 : (Cond.methodLink own index y).before a0 Z = true) (w2 : (Cond.instanceMethod y).before a0 Z = true) (hy : y.cls ≠ "java/lang/invoke/MethodHandle" ∧ y.cls ≠ "java/lang/invoke/VarHandle") {a : Addr} {rm : Room} {as' : Array Value} {Q : Option Value → Heap → List Loc → Prop} (hM : Met l Z y bytes maxL ret rm [] as' h Q) (hwc : (Cond.code y bytes maxL ret).before a0 Z = true) (hwi : (Cond.initialized y.cls).before a0 Z = true) (eT : T.heap = h) (hsize : L.size = c.maxLocals) {argsL rest : List Value} {W : Nat} {ps : List FieldType} {rr : Option FieldType} (hpd : parseMethodDescriptor y.desc = some ⟨ps, rr⟩) (hlen : argsL.length = ps.length) (hst : S = argsL.reverse ++ .ref a :: rest) (has : as' = (.ref a :: argsL).toArray) (hW : (rest.map fun v => v.category).sum = W) (hd : decode c.code pc = .ok (.invokespecial index, 3)) (hf : rm.frames + 1 ≤ R.frames) (hlo : W + (maxL + 11) + rm.locals ≤ R.locals) (hc : cells + rm.cells ≤ R.cells) (hs : slots + rm.slots ≤ R.slots) (hc' : cells + rm.cells = cells') (hs' : slots + rm.slots = slots') (hp : pc + 3 = pc')
    (kk : ∀ v T' h' Lc, Stand p l e R s m args below meth c T' (locs ++ Lc) cells' slots' → T'.heap = h' → Q v h' Lc → Goes p.tables e below P (T'.setTop (mkF m pc' L (v.toList ++ rest)))) : Goes p.tables e below P (T.setTop (mkF m pc L S)) := by
  subst hp hc' hs' hst has hr
  obtain ⟨_, _, ⟨T1, L1, k1, n1⟩, -, X1, ⟨Lc, hQ, l1, y1, z1⟩, st⟩ := X.specialBack hx hy1 hown (mvT hZ w1) (mvT hZ w2) (mvT hZ hwc) hy (backOf (W := W) hM hZ hwc hwi hf hlo) (g := mkF m pc L (argsL.reverse ++ .ref a :: rest)) rfl hsize (Steps.refl _) (a := a) (argsL := argsL) (rest := rest) (lenOf hpd hlen) rfl (by rw [← hW]; show 2 * 0 + _ ≤ _; omega) hd (fun _ _ => ⟨rfl, eT, hc, hs⟩)
  dsimp only [Pt.U, Pt.locs, Pt.cells, Pt.slots] at X1 l1 y1 z1 st hQ
  subst l1 y1 z1
  exact (kk _ _ _ _ X1 rfl hQ).to st
theorem o_virtual (X : Stand p l e R s m args below meth c T locs cells slots) (hx : p.tables.exec = Jvm.exec) (hZ : Z.Warmed39 s.vm) {own C : String} {index : Nat} {y z : MethodName} {bytes : ByteArray} {maxL : Nat} {ret : Option FieldType} (hown : s.vm.findClass own = some m.cls) (w1 : (Cond.methodLink own index y).before a0 Z = true) (w2 : (Cond.declares y).before a0 Z = true) (hnf : NotFace s y) (w3 : (Cond.selects C y z).before a0 Z = true) (w4 : (Cond.instanceMethod z).before a0 Z = true) (hy : y.cls ≠ "java/lang/invoke/MethodHandle" ∧ y.cls ≠ "java/lang/invoke/VarHandle") {a : Addr} (E : Exa Z h a C) {rm : Room} {as' : Array Value} {Q : Option Value → Heap → List Loc → Prop} (hM : Met l Z z bytes maxL ret rm [] as' h Q) (hwc : (Cond.code z bytes maxL ret).before a0 Z = true) (hwi : (Cond.initialized z.cls).before a0 Z = true) (eT : T.heap = h) (hsize : L.size = c.maxLocals) {argsL rest : List Value} {W : Nat} {ps : List FieldType} {rr : Option FieldType} (hpd : parseMethodDescriptor y.desc = some ⟨ps, rr⟩) (hlen : argsL.length = ps.length) (hst : S = argsL.reverse ++ .ref a :: rest) (has : as' = (.ref a :: argsL).toArray) (hW : (rest.map fun v => v.category).sum = W) (hd : decode c.code pc = .ok (.invokevirtual index, 3)) (hf : rm.frames + 1 ≤ R.frames) (hlo : W + (maxL + 11) + rm.locals ≤ R.locals) (hc : cells + rm.cells ≤ R.cells) (hs : slots + rm.slots ≤ R.slots) (hc' : cells + rm.cells = cells') (hs' : slots + rm.slots = slots') (hp : pc + 3 = pc')
    (kk : ∀ v T' h' Lc, Stand p l e R s m args below meth c T' (locs ++ Lc) cells' slots' → T'.heap = h' → Q v h' Lc → Goes p.tables e below P (T'.setTop (mkF m pc' L (v.toList ++ rest)))) : Goes p.tables e below P (T.setTop (mkF m pc L S)) := by
  subst hp hc' hs' hst has
  obtain ⟨cq, kq, qa, qb, qc⟩ := isOf (T := T) hZ eT E
  obtain ⟨_, _, ⟨T1, L1, k1, n1⟩, -, X1, ⟨Lc, hQ, l1, y1, z1⟩, st⟩ := X.virtualBack hx hown (mvT hZ w1) (mvT hZ w2) hnf (mvT hZ w3) (mvT hZ w4) hy (backOf (W := W) hM hZ hwc hwi hf hlo) qa qc (g := mkF m pc L (argsL.reverse ++ .ref a :: rest)) rfl hsize (Steps.refl _) (argsL := argsL) (rest := rest) (lenOf hpd hlen) rfl (by rw [← hW]; show 2 * 0 + _ ≤ _; omega) hd (fun _ _ => ⟨rfl, eT, hc, hs⟩)
  dsimp only [Pt.U, Pt.locs, Pt.cells, Pt.slots] at X1 l1 y1 z1 st hQ
  subst l1 y1 z1
  exact (kk _ _ _ _ X1 rfl hQ).to st
theorem o_iface (X : Stand p l e R s m args below meth c T locs cells slots) (hx : p.tables.exec = Jvm.exec) (hZ : Z.Warmed39 s.vm) {own C : String} {index count : Nat} {xi y : MethodName} {bytes : ByteArray} {maxL : Nat} {ret : Option FieldType} (hown : s.vm.findClass own = some m.cls) (w1 : (Cond.methodLink own index xi).before a0 Z = true) (w2 : (Cond.declares xi).before a0 Z = true) (w3 : (Cond.interfaceMethod xi.cls xi.cls xi.name xi.desc).before args s = true) (w4 : (Cond.selects C xi y).before a0 Z = true) (w5 : (Cond.instanceMethod y).before a0 Z = true) (w6 : (Cond.publicMethod y).before a0 Z = true) (w7 : (Cond.unhidden C xi.name xi.desc).before a0 Z = true) (w8 : (Cond.castable C xi.cls).before a0 Z = true) (hy : xi.cls ≠ "java/lang/invoke/MethodHandle" ∧ xi.cls ≠ "java/lang/invoke/VarHandle") {a : Addr} (E : Exa Z h a C) {rm : Room} {as' : Array Value} {Q : Option Value → Heap → List Loc → Prop} (hM : Met l Z y bytes maxL ret rm [] as' h Q) (hwc : (Cond.code y bytes maxL ret).before a0 Z = true) (hwi : (Cond.initialized y.cls).before a0 Z = true) (eT : T.heap = h) (hsize : L.size = c.maxLocals) {argsL rest : List Value} {W : Nat} {ps : List FieldType} {rr : Option FieldType} (hpd : parseMethodDescriptor xi.desc = some ⟨ps, rr⟩) (hlen : argsL.length = ps.length) (hst : S = argsL.reverse ++ .ref a :: rest) (has : as' = (.ref a :: argsL).toArray) (hW : (rest.map fun v => v.category).sum = W) (hd : decode c.code pc = .ok (.invokeinterface index count, 5)) (hf : rm.frames + 1 ≤ R.frames) (hlo : W + (maxL + 11) + rm.locals ≤ R.locals) (hc : cells + rm.cells ≤ R.cells) (hs : slots + rm.slots ≤ R.slots) (hc' : cells + rm.cells = cells') (hs' : slots + rm.slots = slots') (hp : pc + 5 = pc')
    (kk : ∀ v T' h' Lc, Stand p l e R s m args below meth c T' (locs ++ Lc) cells' slots' → T'.heap = h' → Q v h' Lc → Goes p.tables e below P (T'.setTop (mkF m pc' L (v.toList ++ rest)))) : Goes p.tables e below P (T.setTop (mkF m pc L S)) := by
  subst hp hc' hs' hst has
  obtain ⟨cq, kq, qa, qb, qc⟩ := isOf (T := T) hZ eT E
  obtain ⟨_, _, ⟨T1, L1, k1, n1⟩, -, X1, ⟨Lc, hQ, l1, y1, z1⟩, st⟩ := X.interfaceBack hx hown (mvT hZ w1) (mvT hZ w2) w3 (mvT hZ w4) (mvT hZ w5) (mvT hZ w6) (mvT hZ w7) (mvT hZ w8) hy (backOf (W := W) hM hZ hwc hwi hf hlo) qa qb qc (g := mkF m pc L (argsL.reverse ++ .ref a :: rest)) rfl hsize (Steps.refl _) (argsL := argsL) (rest := rest) (lenOf hpd hlen) rfl (by rw [← hW]; show 2 * 0 + _ ≤ _; omega) hd (fun _ _ => ⟨rfl, eT, hc, hs⟩)
  dsimp only [Pt.U, Pt.locs, Pt.cells, Pt.slots] at X1 l1 y1 z1 st hQ
  subst l1 y1 z1
  exact (kk _ _ _ _ X1 rfl hQ).to st
theorem o_virtualUp (X : Stand p l e R s m args below meth c T locs cells slots) (hx : p.tables.exec = Jvm.exec) (hZ : Z.Warmed39 s.vm) {own C owner : String} {index : Nat} {x y : MethodName} {bytes : ByteArray} {maxL : Nat} {ret : Option FieldType} (hown : s.vm.findClass own = some m.cls) (w1 : (Cond.methodLink own index x).before a0 Z = true) (w2 : (Cond.sameMethod x.cls owner x.name x.desc).before a0 Z = true) (w2' : (Cond.declares ⟨owner, x.name, x.desc⟩).before a0 Z = true) (w3 : (Cond.selects C x y).before a0 Z = true) (w4 : (Cond.instanceMethod y).before a0 Z = true) (hy : owner ≠ "java/lang/invoke/MethodHandle" ∧ owner ≠ "java/lang/invoke/VarHandle") {a : Addr} (E : Exa Z h a C) {rm : Room} {as' : Array Value} {Q : Option Value → Heap → List Loc → Prop} (hM : Met l Z y bytes maxL ret rm [] as' h Q) (hwc : (Cond.code y bytes maxL ret).before a0 Z = true) (hwi : (Cond.initialized y.cls).before a0 Z = true) (eT : T.heap = h) (hsize : L.size = c.maxLocals) {argsL rest : List Value} {W : Nat} {ps : List FieldType} {rr : Option FieldType} (hpd : parseMethodDescriptor x.desc = some ⟨ps, rr⟩) (hlen : argsL.length = ps.length) (hst : S = argsL.reverse ++ .ref a :: rest) (has : as' = (.ref a :: argsL).toArray) (hW : (rest.map fun v => v.category).sum = W) (hd : decode c.code pc = .ok (.invokevirtual index, 3)) (hf : rm.frames + 1 ≤ R.frames) (hlo : W + (maxL + 11) + rm.locals ≤ R.locals) (hc : cells + rm.cells ≤ R.cells) (hs : slots + rm.slots ≤ R.slots) (hc' : cells + rm.cells = cells') (hs' : slots + rm.slots = slots') (hp : pc + 3 = pc')
    (kk : ∀ v T' h' Lc, Stand p l e R s m args below meth c T' (locs ++ Lc) cells' slots' → T'.heap = h' → Q v h' Lc → Goes p.tables e below P (T'.setTop (mkF m pc' L (v.toList ++ rest)))) : Goes p.tables e below P (T.setTop (mkF m pc L S)) := by
  subst hp hc' hs' hst has
  obtain ⟨cq, kq, qa, qb, qc⟩ := isOf (T := T) hZ eT E
  obtain ⟨_, _, ⟨T1, L1, k1, n1⟩, -, X1, ⟨Lc, hQ, l1, y1, z1⟩, st⟩ := X.virtualBackUp hx hown (mvT hZ w1) (mvT hZ w2) (mvT hZ w2') hy (mvT hZ w3) (mvT hZ w4) (backOf (W := W) hM hZ hwc hwi hf hlo) qa qc (g := mkF m pc L (argsL.reverse ++ .ref a :: rest)) rfl hsize (Steps.refl _) (argsL := argsL) (rest := rest) (lenOf hpd hlen) rfl (by rw [← hW]; show 2 * 0 + _ ≤ _; omega) hd (fun _ _ => ⟨rfl, eT, hc, hs⟩)
  dsimp only [Pt.U, Pt.locs, Pt.cells, Pt.slots] at X1 l1 y1 z1 st hQ
  subst l1 y1 z1
  exact (kk _ _ _ _ X1 rfl hQ).to st
theorem o_alen (X : Stand p l e R s m args below meth c T locs cells slots) (hx : p.tables.exec = Jvm.exec) (hZ : Z.Warmed39 s.vm) (eT : T.heap = h) {a : Addr} {kc : ClassId} {ty : FieldType} {z : Int32} {vs : List Value} {dv : Value} (A : Arv Z h a kc ty z vs dv) (hd : decode c.code pc = .ok (.arraylength, 1)) (hp : pc + 1 = pc') (kk : Goes p.tables e below P (T.setTop (mkF m pc' L (.int z :: S)))) : Goes p.tables e below P (T.setTop (mkF m pc L (.ref a :: S))) := by
  subst hp
  obtain ⟨cl, A1, q1, S1, N1, H1, G1⟩ := A
  rw [← len_of S1 N1] at kk
  exact kk.on fun _ k => X.arraylength hx (by rw [eT]; exact A1.1) (State.isArrayOf_alike hZ.alike A1.2.1) (g := mkF m pc L (.ref a :: S)) rfl rfl hd _ k
theorem o_iaload (X : Stand p l e R s m args below meth c T locs cells slots) (hx : p.tables.exec = Jvm.exec) (hZ : Z.Warmed39 s.vm) (eT : T.heap = h) {a : Addr} {kc : ClassId} {z : Int32} {vs : List Value} {dv v : Value} (A : Arv Z h a kc .int z vs dv) {j : Int32} (hj : ¬ j < 0 ∧ j < z) (hv : vs.getD j.toNatClampNeg dv = v) (hd : decode c.code pc = .ok (.iaload, 1)) (hp : pc + 1 = pc') (kk : Goes p.tables e below P (T.setTop (mkF m pc' L (v :: S)))) : Goes p.tables e below P (T.setTop (mkF m pc L (.int j :: .ref a :: S))) := by
  subst hp
  obtain ⟨cl, A1, q1, S1, N1, H1, G1⟩ := A
  have hin := inb_of S1 hj
  exact kk.on fun _ k => X.iaload hx (j := j) (v := v) (by rw [eT]; exact A1.1) (State.isArrayOf_alike hZ.alike A1.2.1) A1.2.2 hin (H1.at hin hv) (g := mkF m pc L (.int j :: .ref a :: S)) rfl rfl hd _ k
theorem o_laload (X : Stand p l e R s m args below meth c T locs cells slots) (hx : p.tables.exec = Jvm.exec) (hZ : Z.Warmed39 s.vm) (eT : T.heap = h) {a : Addr} {kc : ClassId} {z : Int32} {vs : List Value} {dv v : Value} (A : Arv Z h a kc .long z vs dv) {j : Int32} (hj : ¬ j < 0 ∧ j < z) (hv : vs.getD j.toNatClampNeg dv = v) (hd : decode c.code pc = .ok (.laload, 1)) (hp : pc + 1 = pc') (kk : Goes p.tables e below P (T.setTop (mkF m pc' L (v :: S)))) : Goes p.tables e below P (T.setTop (mkF m pc L (.int j :: .ref a :: S))) := by
  subst hp
  obtain ⟨cl, A1, q1, S1, N1, H1, G1⟩ := A
  have hin := inb_of S1 hj
  exact kk.on fun _ k => X.laload hx (j := j) (v := v) (by rw [eT]; exact A1.1) (State.isArrayOf_alike hZ.alike A1.2.1) A1.2.2 hin (H1.at hin hv) (g := mkF m pc L (.int j :: .ref a :: S)) rfl rfl hd _ k
theorem o_caload (X : Stand p l e R s m args below meth c T locs cells slots) (hx : p.tables.exec = Jvm.exec) (hZ : Z.Warmed39 s.vm) (eT : T.heap = h) {a : Addr} {kc : ClassId} {z : Int32} {vs : List Value} {dv v : Value} (A : Arv Z h a kc .char z vs dv) {j : Int32} (hj : ¬ j < 0 ∧ j < z) (hv : vs.getD j.toNatClampNeg dv = v) (hd : decode c.code pc = .ok (.caload, 1)) (hp : pc + 1 = pc') (kk : Goes p.tables e below P (T.setTop (mkF m pc' L (v :: S)))) : Goes p.tables e below P (T.setTop (mkF m pc L (.int j :: .ref a :: S))) := by
  subst hp
  obtain ⟨cl, A1, q1, S1, N1, H1, G1⟩ := A
  have hin := inb_of S1 hj
  exact kk.on fun _ k => X.caload hx (j := j) (v := v) (by rw [eT]; exact A1.1) (State.isArrayOf_alike hZ.alike A1.2.1) A1.2.2 hin (H1.at hin hv) (g := mkF m pc L (.int j :: .ref a :: S)) rfl rfl hd _ k
theorem o_baloadBytes (X : Stand p l e R s m args below meth c T locs cells slots) (hx : p.tables.exec = Jvm.exec) (hZ : Z.Warmed39 s.vm) (eT : T.heap = h) {a : Addr} {kc : ClassId} {z : Int32} {vs : List Value} {dv v : Value} (A : Arv Z h a kc .byte z vs dv) {j : Int32} (hj : ¬ j < 0 ∧ j < z) (hv : vs.getD j.toNatClampNeg dv = v) (hd : decode c.code pc = .ok (.baload, 1)) (hp : pc + 1 = pc') (kk : Goes p.tables e below P (T.setTop (mkF m pc' L (v :: S)))) : Goes p.tables e below P (T.setTop (mkF m pc L (.int j :: .ref a :: S))) := by
  subst hp
  obtain ⟨cl, A1, q1, S1, N1, H1, G1⟩ := A
  have hin := inb_of S1 hj
  exact kk.on fun _ k => X.baloadBytes hx (j := j) (v := v) (by rw [eT]; exact A1.1) (State.isArrayOf_alike hZ.alike A1.2.1) A1.2.2 hin (H1.at hin hv) (g := mkF m pc L (.int j :: .ref a :: S)) rfl rfl hd _ k
theorem o_daload (X : Stand p l e R s m args below meth c T locs cells slots) (hx : p.tables.exec = Jvm.exec) (hZ : Z.Warmed39 s.vm) (eT : T.heap = h) {a : Addr} {kc : ClassId} {z : Int32} {vs : List Value} {dv v : Value} (A : Arv Z h a kc .double z vs dv) {j : Int32} (hj : ¬ j < 0 ∧ j < z) (hv : vs.getD j.toNatClampNeg dv = v) (hd : decode c.code pc = .ok (.daload, 1)) (hp : pc + 1 = pc') (kk : Goes p.tables e below P (T.setTop (mkF m pc' L (v :: S)))) : Goes p.tables e below P (T.setTop (mkF m pc L (.int j :: .ref a :: S))) := by
  subst hp
  obtain ⟨cl, A1, q1, S1, N1, H1, G1⟩ := A
  have hin := inb_of S1 hj
  exact kk.on fun _ k => X.daload hx (j := j) (v := v) (by rw [eT]; exact A1.1) (State.isArrayOf_alike hZ.alike A1.2.1) A1.2.2 hin (H1.at hin hv) (g := mkF m pc L (.int j :: .ref a :: S)) rfl rfl hd _ k
end Own
section Flt
variable {p : Program} {l : Launch} {e : Env} {R : Room} {s : State} {m : MethodId} {args : Array Value} {below : List Frame} {meth : Method} {c : Code} {T : State} {locs : List Loc} {cells slots cells' slots' : Nat} {Z : State} {a0 : Array Value} {h : Heap} {P : Outcome → State → Prop} {pc pc' : Nat} {L L' : Array Slot} {S : List Value}
theorem o_dloadN (X : Stand p l e R s m args below meth c T locs cells slots) (hx : p.tables.exec = Jvm.exec) {k : Fin 4} {v : UInt64} (hd : decode c.code pc = .ok (.dload_n k, 1)) (hl : L[k.val]? = some (.val (.double v))) (hp : pc + 1 = pc') (kk : Goes p.tables e below P (T.setTop (mkF m pc' L (.double v :: S)))) : Goes p.tables e below P (T.setTop (mkF m pc L S)) := by
  subst hp; exact kk.on fun _ k => XS.dloadN X.here hx rfl hd hl k
theorem o_dload (X : Stand p l e R s m args below meth c T locs cells slots) (hx : p.tables.exec = Jvm.exec) {k : Nat} {v : UInt64} (hd : decode c.code pc = .ok (.dload k, 2)) (hl : L[k]? = some (.val (.double v))) (hp : pc + 2 = pc') (kk : Goes p.tables e below P (T.setTop (mkF m pc' L (.double v :: S)))) : Goes p.tables e below P (T.setTop (mkF m pc L S)) := by
  subst hp; exact kk.on fun _ k => XS.dload X.here hx rfl hd hl k
theorem o_dstoreN (X : Stand p l e R s m args below meth c T locs cells slots) (hx : p.tables.exec = Jvm.exec) {k : Fin 4} {x : UInt64} (hd : decode c.code pc = .ok (.dstore_n k, 1)) (hl : storeLocals L k.val (.double x) = some L') (hp : pc + 1 = pc') (kk : Goes p.tables e below P (T.setTop (mkF m pc' L' S))) : Goes p.tables e below P (T.setTop (mkF m pc L (.double x :: S))) := by
  subst hp; exact kk.on fun _ k => XS.dstoreN X.here hx rfl hd rfl hl k
theorem o_dstore (X : Stand p l e R s m args below meth c T locs cells slots) (hx : p.tables.exec = Jvm.exec) {k : Nat} {x : UInt64} (hd : decode c.code pc = .ok (.dstore k, 2)) (hl : storeLocals L k (.double x) = some L') (hp : pc + 2 = pc') (kk : Goes p.tables e below P (T.setTop (mkF m pc' L' S))) : Goes p.tables e below P (T.setTop (mkF m pc L (.double x :: S))) := by
  subst hp; exact kk.on fun _ k => XS.dstore X.here hx rfl hd rfl hl k
theorem o_dnn {i : Int} {v : UInt64} (h : Jvm.FP.Core.DInt i v) : Jvm.Free.Fl.NoNaN64 v := Jvm.Free.Fl.noNaN64_no.mpr ((Jvm.FP.Core.notNaN_iff v).mpr (fun q => by unfold Jvm.FP.Core.DInt at h; rw [q] at h; exact h))
theorem o_daddI (X : Stand p l e R s m args below meth c T locs cells slots) (hx : p.tables.exec = Jvm.exec) {x y : UInt64} {i j k : Int} (hd : decode c.code pc = .ok (.dadd, 1)) (ha : Jvm.FP.Core.DInt i x) (hb : Jvm.FP.Core.DInt j y) (hk : i + j = k) (hB : k.natAbs ≤ 2 ^ 53) (hp : pc + 1 = pc') (kk : ∀ v, Jvm.FP.Core.DInt k v → Goes p.tables e below P (T.setTop (mkF m pc' L (.double v :: S)))) : Goes p.tables e below P (T.setTop (mkF m pc L (.double y :: .double x :: S))) := by
  subst hk hp
  have hv : Jvm.FP.Core.DInt (i + j) (Jvm.FP.dadd x y) := Jvm.FP.Core.dadd_int ha hb hB
  exact (kk _ hv).on fun _ q => XS.daddS X.here hx rfl hd rfl (o_dnn hv) rfl q
theorem o_dsubI (X : Stand p l e R s m args below meth c T locs cells slots) (hx : p.tables.exec = Jvm.exec) {x y : UInt64} {i j k : Int} (hd : decode c.code pc = .ok (.dsub, 1)) (ha : Jvm.FP.Core.DInt i x) (hb : Jvm.FP.Core.DInt j y) (hk : i - j = k) (hB : k.natAbs ≤ 2 ^ 53) (hp : pc + 1 = pc') (kk : ∀ v, Jvm.FP.Core.DInt k v → Goes p.tables e below P (T.setTop (mkF m pc' L (.double v :: S)))) : Goes p.tables e below P (T.setTop (mkF m pc L (.double y :: .double x :: S))) := by
  subst hk hp
  have hv : Jvm.FP.Core.DInt (i - j) (Jvm.FP.dsub x y) := Jvm.FP.Core.dsub_int ha hb hB
  exact (kk _ hv).on fun _ q => XS.dsubS X.here hx rfl hd rfl (o_dnn hv) rfl q
theorem o_dmulI (X : Stand p l e R s m args below meth c T locs cells slots) (hx : p.tables.exec = Jvm.exec) {x y : UInt64} {i j k : Int} (hd : decode c.code pc = .ok (.dmul, 1)) (ha : Jvm.FP.Core.DInt i x) (hb : Jvm.FP.Core.DInt j y) (hk : i * j = k) (hB : k.natAbs ≤ 2 ^ 53) (hp : pc + 1 = pc') (kk : ∀ v, Jvm.FP.Core.DInt k v → Goes p.tables e below P (T.setTop (mkF m pc' L (.double v :: S)))) : Goes p.tables e below P (T.setTop (mkF m pc L (.double y :: .double x :: S))) := by
  subst hk hp
  have hv : Jvm.FP.Core.DInt (i * j) (Jvm.FP.dmul x y) := Jvm.FP.Core.dmul_int ha hb hB
  exact (kk _ hv).on fun _ q => XS.dmulS X.here hx rfl hd rfl (o_dnn hv) rfl q
theorem o_l2dI (X : Stand p l e R s m args below meth c T locs cells slots) (hx : p.tables.exec = Jvm.exec) {x : Int64} (hd : decode c.code pc = .ok (.l2d, 1)) (hB : x.toInt.natAbs ≤ 2 ^ 53) (hp : pc + 1 = pc') (kk : ∀ v, Jvm.FP.Core.DInt x.toInt v → Goes p.tables e below P (T.setTop (mkF m pc' L (.double v :: S)))) : Goes p.tables e below P (T.setTop (mkF m pc L (.long x :: S))) := by
  subst hp
  exact (kk _ (Jvm.FP.Core.l2d_int hB)).on fun _ q => XS.l2dS X.here hx rfl hd rfl rfl q
theorem o_i2dI (X : Stand p l e R s m args below meth c T locs cells slots) (hx : p.tables.exec = Jvm.exec) {x : Int32} (hd : decode c.code pc = .ok (.i2d, 1)) (hp : pc + 1 = pc') (kk : ∀ v, Jvm.FP.Core.DInt x.toInt v → Goes p.tables e below P (T.setTop (mkF m pc' L (.double v :: S)))) : Goes p.tables e below P (T.setTop (mkF m pc L (.int x :: S))) := by
  subst hp
  exact (kk _ (Jvm.FP.Core.i2d_int x)).on fun _ q => XS.i2dS X.here hx rfl hd rfl rfl q
theorem o_dconst0I (X : Stand p l e R s m args below meth c T locs cells slots) (hx : p.tables.exec = Jvm.exec) (hd : decode c.code pc = .ok (.dconst 0, 1)) (hp : pc + 1 = pc') (kk : ∀ v, Jvm.FP.Core.DInt 0 v → Goes p.tables e below P (T.setTop (mkF m pc' L (.double v :: S)))) : Goes p.tables e below P (T.setTop (mkF m pc L S)) := by
  subst hp
  exact (kk _ (by have q := Jvm.FP.Core.i2d_int 0; exact q)).on fun _ q => XS.dconst0 X.here hx rfl hd (show Jvm.FP.dconst0 = Jvm.FP.i2d 0 by decide +kernel) q
theorem own_d00 : Jvm.FP.Core.DInt 0 0 := by have q := Jvm.FP.Core.i2d_int 0; rw [show Jvm.FP.Core.i2d 0 = 0 by decide +kernel] at q; exact q
def cmpZ (i j : Int) : Int32 := if i < j then -1 else if i = j then 0 else 1
theorem oc_lt (i j : Int) : cmpZ i j < 0 ↔ i < j := by unfold cmpZ; split <;> (try split) <;> simp_all <;> (first | decide | omega)
theorem oc_gt (i j : Int) : 0 < cmpZ i j ↔ j < i := by unfold cmpZ; split <;> (try split) <;> simp_all <;> (first | decide | omega)
theorem oc_eq (i j : Int) : cmpZ i j = 0 ↔ i = j := by unfold cmpZ; split <;> (try split) <;> simp_all <;> (first | decide | omega)
theorem o_dcmpI (X : Stand p l e R s m args below meth c T locs cells slots) (hx : p.tables.exec = Jvm.exec) {x y : UInt64} {i j : Int} {o : CmpOp} (hd : decode c.code pc = .ok (.dcmp o, 1)) (ha : Jvm.FP.Core.DInt i x) (hb : Jvm.FP.Core.DInt j y) (hp : pc + 1 = pc') (kk : Goes p.tables e below P (T.setTop (mkF m pc' L (.int (cmpZ i j) :: S)))) : Goes p.tables e below P (T.setTop (mkF m pc L (.double y :: .double x :: S))) := by
  subst hp
  have hv : cmpValue (Jvm.FP.dcmp x y) o = cmpZ i j := by
    rw [show Jvm.FP.dcmp x y = some (compare i j) from Jvm.FP.Core.dcmp_int ha hb]
    unfold cmpZ
    rcases Int.lt_trichotomy i j with h | h | h
    · rw [Int.compare_eq_lt.mpr h, if_pos h]; cases o <;> rfl
    · rw [Int.compare_eq_eq.mpr h, if_neg (by omega), if_pos h]; cases o <;> rfl
    · rw [Int.compare_eq_gt.mpr h, if_neg (by omega), if_neg (by omega)]; cases o <;> rfl
  exact kk.on fun _ q => XS.dcmpS X.here hx rfl hd rfl hv q
theorem own_sg {i j : Int} {x y z : UInt64} (ha : Jvm.FP.Core.DInt i x) (hb : Jvm.FP.Core.DInt j y) (hz : Jvm.FP.Core.DInt 0 z) : Jvm.FP.Core.dcmp (Jvm.FP.Core.dmul x y) z = some (compare (i * j) 0) ∧ Jvm.FP.Core.val64 (Jvm.FP.Core.dmul x y) ≠ .nan := by
  have hW : Jvm.FP.Core.Whole (i * j) (Jvm.FP.Core.exactProduct (Jvm.FP.Core.val64 x) (Jvm.FP.Core.val64 y)) := Jvm.FP.Core.whole_product ha hb
  by_cases h0 : i * j = 0
  · have q := Jvm.FP.Core.dmul_int ha hb (by rw [h0]; decide)
    exact ⟨Jvm.FP.Core.dcmp_int q hz, Jvm.FP.Core.Whole.ne_nan q⟩
  · have hv := Jvm.FP.Core.val64_dmul x y
    cases hP : Jvm.FP.Core.exactProduct (Jvm.FP.Core.val64 x) (Jvm.FP.Core.val64 y) with
    | nan => rw [hP] at hW; exact hW.elim
    | inf s => rw [hP] at hW; exact hW.elim
    | fin s c q =>
      rw [hP] at hW hv
      have hn : Jvm.FP.Core.val64 (Jvm.FP.Core.dmul x y) ≠ .nan := by rw [hv]; intro h; exact Jvm.FP.Core.Datum.noConfusion (Jvm.FP.Core.round_nan.mp h)
      refine ⟨?_, hn⟩
      rw [Jvm.FP.Core.dcmp_zval hn (Jvm.FP.Core.Whole.ne_nan hz), Jvm.FP.Core.DInt_zval hz, Int.zero_mul]
      generalize hk : i * j = k at *
      have hv' : Jvm.FP.Core.val64 (Jvm.FP.Core.dmul x y) = Jvm.FP.Core.round Jvm.FP.Core.b64 (.fin (decide (k < 0)) k.natAbs 0) := by rw [hv, Jvm.FP.Core.round_whole hW, Jvm.FP.Core.whole_sign hW h0]; rfl
      have h1 := Jvm.FP.Core.one64_pos
      rcases Int.lt_or_gt_of_ne h0 with hneg | hpos
      · have hd1 : Jvm.FP.Core.DInt (-1) (Jvm.FP.Core.i2d (-1)) := Jvm.FP.Core.i2d_int (-1)
        have hz1 := Jvm.FP.Core.DInt_zval hd1
        have r : Jvm.FP.Core.zval Jvm.FP.Core.b64 (Jvm.FP.Core.round Jvm.FP.Core.b64 (.fin (decide (k < 0)) k.natAbs 0)) ≤ Jvm.FP.Core.zval Jvm.FP.Core.b64 (Jvm.FP.Core.val64 (Jvm.FP.Core.i2d (-1))) := by
          refine Jvm.FP.Core.zval_round_le Jvm.FP.Core.good_b64 (Jvm.FP.Core.val64_fits _) (Jvm.FP.Core.Whole.ne_nan hd1) (e0 := Jvm.FP.Core.b64.qmin) (Int.le_refl _) (by decide +kernel) ?_
          rw [Jvm.FP.Core.ofInt_units Jvm.FP.Core.b64, Jvm.FP.Core.pow_qmin64, Int.sub_self]
          show _ ≤ _ * ((1 : Nat) : Int)
          rw [show ((1 : Nat) : Int) = 1 from rfl, Int.mul_one, hz1]
          exact Int.mul_le_mul_of_nonneg_right (by omega) (by omega)
        rw [← hv', hz1] at r
        rw [Int.compare_eq_lt.mpr (show Jvm.FP.Core.zval Jvm.FP.Core.b64 (Jvm.FP.Core.val64 (Jvm.FP.Core.dmul x y)) < 0 by omega), Int.compare_eq_lt.mpr hneg]
      · have hd1 : Jvm.FP.Core.DInt 1 (Jvm.FP.Core.i2d 1) := Jvm.FP.Core.i2d_int 1
        have hz1 := Jvm.FP.Core.DInt_zval hd1
        have r : Jvm.FP.Core.zval Jvm.FP.Core.b64 (Jvm.FP.Core.val64 (Jvm.FP.Core.i2d 1)) ≤ Jvm.FP.Core.zval Jvm.FP.Core.b64 (Jvm.FP.Core.round Jvm.FP.Core.b64 (.fin (decide (k < 0)) k.natAbs 0)) := by
          refine Jvm.FP.Core.zval_round_ge Jvm.FP.Core.good_b64 (Jvm.FP.Core.val64_fits _) (Jvm.FP.Core.Whole.ne_nan hd1) (e0 := Jvm.FP.Core.b64.qmin) (Int.le_refl _) (by decide +kernel) ?_
          rw [Jvm.FP.Core.ofInt_units Jvm.FP.Core.b64, Jvm.FP.Core.pow_qmin64, Int.sub_self]
          show _ * ((1 : Nat) : Int) ≤ _
          rw [show ((1 : Nat) : Int) = 1 from rfl, Int.mul_one, hz1]
          exact Int.mul_le_mul_of_nonneg_right (by omega) (by omega)
        rw [← hv', hz1] at r
        rw [Int.compare_eq_gt.mpr (show 0 < Jvm.FP.Core.zval Jvm.FP.Core.b64 (Jvm.FP.Core.val64 (Jvm.FP.Core.dmul x y)) by omega), Int.compare_eq_gt.mpr hpos]
def Sg (k : Int) (v : UInt64) : Prop := Jvm.Free.Fl.NoNaN64 v ∧ ∀ z, Jvm.FP.Core.DInt 0 z → Jvm.FP.dcmp v z = some (compare k 0)
theorem o_dmulSg (X : Stand p l e R s m args below meth c T locs cells slots) (hx : p.tables.exec = Jvm.exec) {x y : UInt64} {i j : Int} (hd : decode c.code pc = .ok (.dmul, 1)) (ha : Jvm.FP.Core.DInt i x) (hb : Jvm.FP.Core.DInt j y) (hp : pc + 1 = pc') (kk : ∀ v, Sg (i * j) v → Goes p.tables e below P (T.setTop (mkF m pc' L (.double v :: S)))) : Goes p.tables e below P (T.setTop (mkF m pc L (.double y :: .double x :: S))) := by
  subst hp
  have hn : Jvm.Free.Fl.NoNaN64 (Jvm.FP.dmul x y) := Jvm.Free.Fl.noNaN64_no.mpr ((Jvm.FP.Core.notNaN_iff _).mpr (own_sg ha hb (Jvm.FP.Core.i2d_int 0)).2)
  exact (kk _ ⟨hn, fun z hz => (own_sg ha hb hz).1⟩).on fun _ q => XS.dmulS X.here hx rfl hd rfl hn rfl q
theorem o_cmpV {i j : Int} {o : CmpOp} {r : Option Ordering} (h : r = some (compare i j)) : cmpValue r o = cmpZ i j := by
  rw [h]
  unfold cmpZ
  rcases Int.lt_trichotomy i j with h | h | h
  · rw [Int.compare_eq_lt.mpr h, if_pos h]; cases o <;> rfl
  · rw [Int.compare_eq_eq.mpr h, if_neg (by omega), if_pos h]; cases o <;> rfl
  · rw [Int.compare_eq_gt.mpr h, if_neg (by omega), if_neg (by omega)]; cases o <;> rfl
theorem o_dcmpSg (X : Stand p l e R s m args below meth c T locs cells slots) (hx : p.tables.exec = Jvm.exec) {x y : UInt64} {k : Int} {o : CmpOp} (hd : decode c.code pc = .ok (.dcmp o, 1)) (ha : Sg k x) (hb : Jvm.FP.Core.DInt 0 y) (hp : pc + 1 = pc') (kk : Goes p.tables e below P (T.setTop (mkF m pc' L (.int (cmpZ k 0) :: S)))) : Goes p.tables e below P (T.setTop (mkF m pc L (.double y :: .double x :: S))) := by
  subst hp
  exact kk.on fun _ q => XS.dcmpS X.here hx rfl hd rfl (o_cmpV (ha.2 y hb)) q
theorem own_mulb {a b : Int} {A B C : Nat} (ha : a.natAbs ≤ A) (hb : b.natAbs ≤ B) (hC : A * B = C) : (a * b).natAbs ≤ C := by
  subst hC; rw [Int.natAbs_mul]; exact Nat.mul_le_mul ha hb
theorem own_subb {a b : Int} {A B C : Nat} (ha : a.natAbs ≤ A) (hb : b.natAbs ≤ B) (hC : A + B = C) : (a - b).natAbs ≤ C := by omega
theorem own_addb {a b : Int} {A B C : Nat} (ha : a.natAbs ≤ A) (hb : b.natAbs ≤ B) (hC : A + B = C) : (a + b).natAbs ≤ C := by omega
end Flt
theorem own_i32b (x : Int32) : x.toInt.natAbs ≤ 2147483648 := by
  have h1 := Int32.minValue_le_toInt x
  have h2 := Int32.toInt_le x
  have e1 : Int32.minValue.toInt = -2147483648 := rfl
  have e2 : Int32.maxValue.toInt = 2147483647 := rfl
  rw [e1] at h1; rw [e2] at h2; omega
theorem own_r1000 {x : Int32} : (x % (1000 : Int32)).toInt.natAbs ≤ 999 := by
  rw [Int32.toInt_mod, show (1000 : Int32).toInt = 1000 from rfl]
  have h1 := Int.tmod_lt_of_pos x.toInt (show (0 : Int) < 1000 by decide)
  have h2 : -1000 < x.toInt.tmod 1000 := by
    have := Int.lt_tmod_of_pos x.toInt (show (0 : Int) < 1000 by decide)
    exact this
  omega
theorem own_w3 {w : Int32} : ((w &&& (2147483647 : Int32)) % (3 : Int32)) = 0 ∨ ((w &&& (2147483647 : Int32)) % (3 : Int32)) = 1 ∨ ((w &&& (2147483647 : Int32)) % (3 : Int32)) = 2 := by
  have h : 0 ≤ (w &&& 2147483647).toInt := by
    have hb : (w &&& (2147483647 : Int32)).toInt = ((w.toBitVec &&& 2147483647#32)).toInt := rfl
    rw [hb, BitVec.toInt_eq_toNat_of_msb]
    · exact Int.natCast_nonneg _
    · simp only [BitVec.msb_and, show (2147483647#32).msb = false from by decide, Bool.and_false]
  have h2 : ((w &&& 2147483647) % 3 : Int32).toInt = (w &&& 2147483647).toInt.tmod 3 := by
    rw [Int32.toInt_mod]; rfl
  have h3 : 0 ≤ (w &&& 2147483647).toInt.tmod 3 := Int.tmod_nonneg _ h
  have h4 : (w &&& 2147483647).toInt.tmod 3 < 3 := Int.tmod_lt_of_pos _ (by decide)
  have hh : ((w &&& 2147483647) % 3 : Int32).toInt = 0 ∨ ((w &&& 2147483647) % 3 : Int32).toInt = 1 ∨ ((w &&& 2147483647) % 3 : Int32).toInt = 2 := by omega
  rcases hh with h | h | h
  · exact Or.inl (Int32.toInt_inj.mp h)
  · exact Or.inr (Or.inl (Int32.toInt_inj.mp h))
  · exact Or.inr (Or.inr (Int32.toInt_inj.mp h))
theorem own_cnt {a b : Int64} : (((0 : Int64) + a) + b = (0 : Int64)) ↔ a + b = (0 : Int64) := by rw [Int64.zero_add]
theorem own_sum {t u a : Int32} (ha : a.toInt.natAbs ≤ 999) : ((t.toInt64 + u.toInt64) * a.toInt64 = (0 : Int64)) ↔ ((0 + (t.toInt * a.toInt)) + (u.toInt * a.toInt) = 0) := by
  have h1 := own_i32b t
  have h2 := own_i32b u
  have e1 : (t.toInt64 + u.toInt64).toInt = t.toInt + u.toInt := by
    rw [Int64.toInt_add, Int32.toInt_toInt64, Int32.toInt_toInt64, Int.bmod_eq_of_le (by omega) (by omega)]
  have hb : ((t.toInt + u.toInt) * a.toInt).natAbs ≤ 4294967296 * 999 := by
    rw [Int.natAbs_mul]; exact Nat.mul_le_mul (by omega) ha
  have e2 : ((t.toInt64 + u.toInt64) * a.toInt64).toInt = (t.toInt + u.toInt) * a.toInt := by
    rw [Int64.toInt_mul, e1, Int32.toInt_toInt64, Int.bmod_eq_of_le (by omega) (by omega)]
  have e3 : (0 + (t.toInt * a.toInt)) + (u.toInt * a.toInt) = (t.toInt + u.toInt) * a.toInt := by rw [Int.zero_add, ← Int.add_mul]
  rw [e3, ← Int64.toInt_inj, e2]; rfl
theorem own_y {z : Int32} {C : Prop} (hz : z = 1 ∧ C ∨ z = 0 ∧ ¬ C) (h : C) : z = 1 := hz.elim (fun q => q.1) (fun q => absurd h q.2)
theorem own_n {z : Int32} {C : Prop} (hz : z = 1 ∧ C ∨ z = 0 ∧ ¬ C) (h : ¬ C) : z = 0 := hz.elim (fun q => absurd q.2 h) (fun q => q.1)
theorem wd0 {Z : State} {a0 : Array Value} (hw : ∀ d ∈ tables_1, d.before a0 Z = true) : (Jvm.Cond.constant "com/example/rillgraph/rillgraph/core/model/ChangeChangesPinLaw" (7 : Nat) (2147483647 : Int32)).before a0 Z = true := hw _ (List.mem_of_getElem? (i := 0) rfl)
theorem wd1 {Z : State} {a0 : Array Value} (hw : ∀ d ∈ tables_1, d.before a0 Z = true) : (Jvm.Cond.arrayClass Jvm.ClassFile.FieldType.double).before a0 Z = true := hw _ (List.mem_of_getElem? (i := 1) rfl)
theorem wd2 {Z : State} {a0 : Array Value} (hw : ∀ d ∈ tables_1, d.before a0 Z = true) : (Jvm.Cond.classLink "com/example/rillgraph/rillgraph/core/model/ChangeChangesPinLaw" (8 : Nat) "com/example/rillgraph/rillgraph/core/model/Aggregator$Change").before a0 Z = true := hw _ (List.mem_of_getElem? (i := 2) rfl)
theorem wd3 {Z : State} {a0 : Array Value} (hw : ∀ d ∈ tables_1, d.before a0 Z = true) : (Jvm.Cond.instantiable "com/example/rillgraph/rillgraph/core/model/Aggregator$Change" (2 : Nat)).before a0 Z = true := hw _ (List.mem_of_getElem? (i := 3) rfl)
theorem wd4 {Z : State} {a0 : Array Value} (hw : ∀ d ∈ tables_1, d.before a0 Z = true) : (Jvm.Cond.initialized "com/example/rillgraph/rillgraph/core/model/Aggregator$Change").before a0 Z = true := hw _ (List.mem_of_getElem? (i := 4) rfl)
theorem wd5 {Z : State} {a0 : Array Value} (hw : ∀ d ∈ tables_1, d.before a0 Z = true) : (Jvm.Cond.methodLink "com/example/rillgraph/rillgraph/core/model/ChangeChangesPinLaw" (10 : Nat) ({ cls := "com/example/rillgraph/rillgraph/core/model/Aggregator$Change", name := "<init>", desc := "(I)V" } : Jvm.MethodName)).before a0 Z = true := hw _ (List.mem_of_getElem? (i := 5) rfl)
theorem wd6 {Z : State} {a0 : Array Value} (hw : ∀ d ∈ tables_1, d.before a0 Z = true) : (Jvm.Cond.instanceMethod ({ cls := "com/example/rillgraph/rillgraph/core/model/Aggregator$Change", name := "<init>", desc := "(I)V" } : Jvm.MethodName)).before a0 Z = true := hw _ (List.mem_of_getElem? (i := 6) rfl)
theorem wd7 {Z : State} {a0 : Array Value} (hw : ∀ d ∈ tables_1, d.before a0 Z = true) : (Jvm.Cond.code ({ cls := "com/example/rillgraph/rillgraph/core/model/Aggregator$Change", name := "<init>", desc := "(I)V" } : Jvm.MethodName) prog_60_method_1_code (2 : Nat) (Option.none : Option Jvm.ClassFile.FieldType)).before a0 Z = true := hw _ (List.mem_of_getElem? (i := 7) rfl)
theorem wd8 {Z : State} {a0 : Array Value} (hw : ∀ d ∈ tables_1, d.before a0 Z = true) : (Jvm.Cond.methodLink "com/example/rillgraph/rillgraph/core/model/Aggregator$Change" (1 : Nat) ({ cls := "java/lang/Object", name := "<init>", desc := "()V" } : Jvm.MethodName)).before a0 Z = true := hw _ (List.mem_of_getElem? (i := 8) rfl)
theorem wd9 {Z : State} {a0 : Array Value} (hw : ∀ d ∈ tables_1, d.before a0 Z = true) : (Jvm.Cond.instanceMethod ({ cls := "java/lang/Object", name := "<init>", desc := "()V" } : Jvm.MethodName)).before a0 Z = true := hw _ (List.mem_of_getElem? (i := 9) rfl)
theorem wd10 {Z : State} {a0 : Array Value} (hw : ∀ d ∈ tables_1, d.before a0 Z = true) : (Jvm.Cond.code ({ cls := "java/lang/Object", name := "<init>", desc := "()V" } : Jvm.MethodName) object_method_1_code (1 : Nat) (Option.none : Option Jvm.ClassFile.FieldType)).before a0 Z = true := hw _ (List.mem_of_getElem? (i := 10) rfl)
theorem wd11 {Z : State} {a0 : Array Value} (hw : ∀ d ∈ tables_1, d.before a0 Z = true) : (Jvm.Cond.fieldLink "com/example/rillgraph/rillgraph/core/model/Aggregator$Change" (7 : Nat) "com/example/rillgraph/rillgraph/core/model/Aggregator$Change" "sums" "[D").before a0 Z = true := hw _ (List.mem_of_getElem? (i := 11) rfl)
theorem wd12 {Z : State} {a0 : Array Value} (hw : ∀ d ∈ tables_1, d.before a0 Z = true) : (Jvm.Cond.laysFinal "com/example/rillgraph/rillgraph/core/model/Aggregator$Change" "com/example/rillgraph/rillgraph/core/model/Aggregator$Change" "sums" "[D").before a0 Z = true := hw _ (List.mem_of_getElem? (i := 12) rfl)
theorem wd13 {Z : State} {a0 : Array Value} (hw : ∀ d ∈ tables_1, d.before a0 Z = true) : (Jvm.Cond.methodLink "com/example/rillgraph/rillgraph/core/model/ChangeChangesPinLaw" (13 : Nat) ({ cls := "com/example/rillgraph/rillgraph/core/model/Aggregator$Change", name := "add", desc := "([DIJ)V" } : Jvm.MethodName)).before a0 Z = true := hw _ (List.mem_of_getElem? (i := 13) rfl)
theorem wd14 {Z : State} {a0 : Array Value} (hw : ∀ d ∈ tables_1, d.before a0 Z = true) : (Jvm.Cond.declares ({ cls := "com/example/rillgraph/rillgraph/core/model/Aggregator$Change", name := "add", desc := "([DIJ)V" } : Jvm.MethodName)).before a0 Z = true := hw _ (List.mem_of_getElem? (i := 14) rfl)
theorem wd15 {Z : State} {a0 : Array Value} (hw : ∀ d ∈ tables_1, d.before a0 Z = true) : (Jvm.Cond.instanceMethod ({ cls := "com/example/rillgraph/rillgraph/core/model/Aggregator$Change", name := "add", desc := "([DIJ)V" } : Jvm.MethodName)).before a0 Z = true := hw _ (List.mem_of_getElem? (i := 15) rfl)
theorem wd16 {Z : State} {a0 : Array Value} (hw : ∀ d ∈ tables_1, d.before a0 Z = true) : (Jvm.Cond.selects "com/example/rillgraph/rillgraph/core/model/Aggregator$Change" ({ cls := "com/example/rillgraph/rillgraph/core/model/Aggregator$Change", name := "add", desc := "([DIJ)V" } : Jvm.MethodName) ({ cls := "com/example/rillgraph/rillgraph/core/model/Aggregator$Change", name := "add", desc := "([DIJ)V" } : Jvm.MethodName)).before a0 Z = true := hw _ (List.mem_of_getElem? (i := 16) rfl)
theorem wd17 {Z : State} {a0 : Array Value} (hw : ∀ d ∈ tables_1, d.before a0 Z = true) : (Jvm.Cond.code ({ cls := "com/example/rillgraph/rillgraph/core/model/Aggregator$Change", name := "add", desc := "([DIJ)V" } : Jvm.MethodName) prog_60_method_2_code (5 : Nat) (Option.none : Option Jvm.ClassFile.FieldType)).before a0 Z = true := hw _ (List.mem_of_getElem? (i := 17) rfl)
theorem wd18 {Z : State} {a0 : Array Value} (hw : ∀ d ∈ tables_1, d.before a0 Z = true) : (Jvm.Cond.methodLinkNest "com/example/rillgraph/rillgraph/core/model/Aggregator$Change" (13 : Nat) ({ cls := "com/example/rillgraph/rillgraph/core/model/Aggregator", name := "addTimes", desc := "([D[DI)V" } : Jvm.MethodName) "com/example/rillgraph/rillgraph/core/model/Aggregator").before a0 Z = true := hw _ (List.mem_of_getElem? (i := 18) rfl)
theorem wd19 {Z : State} {a0 : Array Value} (hw : ∀ d ∈ tables_1, d.before a0 Z = true) : (Jvm.Cond.static ({ cls := "com/example/rillgraph/rillgraph/core/model/Aggregator", name := "addTimes", desc := "([D[DI)V" } : Jvm.MethodName)).before a0 Z = true := hw _ (List.mem_of_getElem? (i := 19) rfl)
theorem wd20 {Z : State} {a0 : Array Value} (hw : ∀ d ∈ tables_1, d.before a0 Z = true) : (Jvm.Cond.initialized "com/example/rillgraph/rillgraph/core/model/Aggregator").before a0 Z = true := hw _ (List.mem_of_getElem? (i := 20) rfl)
theorem wd21 {Z : State} {a0 : Array Value} (hw : ∀ d ∈ tables_1, d.before a0 Z = true) : (Jvm.Cond.code ({ cls := "com/example/rillgraph/rillgraph/core/model/Aggregator", name := "addTimes", desc := "([D[DI)V" } : Jvm.MethodName) prog_59_method_6_code (6 : Nat) (Option.none : Option Jvm.ClassFile.FieldType)).before a0 Z = true := hw _ (List.mem_of_getElem? (i := 21) rfl)
theorem wd22 {Z : State} {a0 : Array Value} (hw : ∀ d ∈ tables_1, d.before a0 Z = true) : (Jvm.Cond.fieldLink "com/example/rillgraph/rillgraph/core/model/Aggregator$Change" (19 : Nat) "com/example/rillgraph/rillgraph/core/model/Aggregator$Change" "count" "J").before a0 Z = true := hw _ (List.mem_of_getElem? (i := 22) rfl)
theorem wd23 {Z : State} {a0 : Array Value} (hw : ∀ d ∈ tables_1, d.before a0 Z = true) : (Jvm.Cond.lays "com/example/rillgraph/rillgraph/core/model/Aggregator$Change" "com/example/rillgraph/rillgraph/core/model/Aggregator$Change" "count" "J").before a0 Z = true := hw _ (List.mem_of_getElem? (i := 23) rfl)
theorem wd24 {Z : State} {a0 : Array Value} (hw : ∀ d ∈ tables_1, d.before a0 Z = true) : (Jvm.Cond.methodLink "com/example/rillgraph/rillgraph/core/model/ChangeChangesPinLaw" (17 : Nat) ({ cls := "com/example/rillgraph/rillgraph/core/model/Aggregator$Change", name := "changes", desc := "()Z" } : Jvm.MethodName)).before a0 Z = true := hw _ (List.mem_of_getElem? (i := 24) rfl)
theorem wd25 {Z : State} {a0 : Array Value} (hw : ∀ d ∈ tables_1, d.before a0 Z = true) : (Jvm.Cond.declares ({ cls := "com/example/rillgraph/rillgraph/core/model/Aggregator$Change", name := "changes", desc := "()Z" } : Jvm.MethodName)).before a0 Z = true := hw _ (List.mem_of_getElem? (i := 25) rfl)
theorem wd26 {Z : State} {a0 : Array Value} (hw : ∀ d ∈ tables_1, d.before a0 Z = true) : (Jvm.Cond.instanceMethod ({ cls := "com/example/rillgraph/rillgraph/core/model/Aggregator$Change", name := "changes", desc := "()Z" } : Jvm.MethodName)).before a0 Z = true := hw _ (List.mem_of_getElem? (i := 26) rfl)
theorem wd27 {Z : State} {a0 : Array Value} (hw : ∀ d ∈ tables_1, d.before a0 Z = true) : (Jvm.Cond.selects "com/example/rillgraph/rillgraph/core/model/Aggregator$Change" ({ cls := "com/example/rillgraph/rillgraph/core/model/Aggregator$Change", name := "changes", desc := "()Z" } : Jvm.MethodName) ({ cls := "com/example/rillgraph/rillgraph/core/model/Aggregator$Change", name := "changes", desc := "()Z" } : Jvm.MethodName)).before a0 Z = true := hw _ (List.mem_of_getElem? (i := 27) rfl)
theorem wd28 {Z : State} {a0 : Array Value} (hw : ∀ d ∈ tables_1, d.before a0 Z = true) : (Jvm.Cond.code ({ cls := "com/example/rillgraph/rillgraph/core/model/Aggregator$Change", name := "changes", desc := "()Z" } : Jvm.MethodName) prog_60_method_3_code (6 : Nat) (Option.some Jvm.ClassFile.FieldType.boolean)).before a0 Z = true := hw _ (List.mem_of_getElem? (i := 28) rfl)
theorem d1_0 : decode prog_60_method_1_code 0 = .ok (.aload_n 0, 1) := by decide +kernel
theorem d1_1 : decode prog_60_method_1_code 1 = .ok (.invokespecial 1, 3) := by decide +kernel
theorem d1_4 : decode prog_60_method_1_code 4 = .ok (.aload_n 0, 1) := by decide +kernel
theorem d1_5 : decode prog_60_method_1_code 5 = .ok (.iload_n 1, 1) := by decide +kernel
theorem d1_6 : decode prog_60_method_1_code 6 = .ok (.newarray .double, 2) := by decide +kernel
theorem d1_8 : decode prog_60_method_1_code 8 = .ok (.putfield 7, 3) := by decide +kernel
theorem d1_11 : decode prog_60_method_1_code 11 = .ok (.return_, 1) := by decide +kernel
theorem d3_0 : decode prog_60_method_2_code 0 = .ok (.aload_n 0, 1) := by decide +kernel
theorem d3_1 : decode prog_60_method_2_code 1 = .ok (.getfield 7, 3) := by decide +kernel
theorem d3_4 : decode prog_60_method_2_code 4 = .ok (.aload_n 1, 1) := by decide +kernel
theorem d3_5 : decode prog_60_method_2_code 5 = .ok (.iload_n 2, 1) := by decide +kernel
theorem d3_6 : decode prog_60_method_2_code 6 = .ok (.invokestatic 13, 3) := by decide +kernel
theorem d3_9 : decode prog_60_method_2_code 9 = .ok (.aload_n 0, 1) := by decide +kernel
theorem d3_10 : decode prog_60_method_2_code 10 = .ok (.dup, 1) := by decide +kernel
theorem d3_11 : decode prog_60_method_2_code 11 = .ok (.getfield 19, 3) := by decide +kernel
theorem d3_14 : decode prog_60_method_2_code 14 = .ok (.lload_n 3, 1) := by decide +kernel
theorem d3_15 : decode prog_60_method_2_code 15 = .ok (.ladd, 1) := by decide +kernel
theorem d3_16 : decode prog_60_method_2_code 16 = .ok (.putfield 19, 3) := by decide +kernel
theorem d3_19 : decode prog_60_method_2_code 19 = .ok (.return_, 1) := by decide +kernel
theorem d4_0 : decode prog_59_method_6_code 0 = .ok (.iload_n 2, 1) := by decide +kernel
theorem d4_1 : decode prog_59_method_6_code 1 = .ok (.i2d, 1) := by decide +kernel
theorem d4_2 : decode prog_59_method_6_code 2 = .ok (.dstore_n 3, 1) := by decide +kernel
theorem d4_3 : decode prog_59_method_6_code 3 = .ok (.iconst 0, 1) := by decide +kernel
theorem d4_4 : decode prog_59_method_6_code 4 = .ok (.istore 5, 2) := by decide +kernel
theorem d4_6 : decode prog_59_method_6_code 6 = .ok (.iload 5, 2) := by decide +kernel
theorem d4_8 : decode prog_59_method_6_code 8 = .ok (.aload_n 0, 1) := by decide +kernel
theorem d4_9 : decode prog_59_method_6_code 9 = .ok (.arraylength, 1) := by decide +kernel
theorem d4_10 : decode prog_59_method_6_code 10 = .ok (.if_icmp .ge 22, 3) := by decide +kernel
theorem d4_13 : decode prog_59_method_6_code 13 = .ok (.aload_n 0, 1) := by decide +kernel
theorem d4_14 : decode prog_59_method_6_code 14 = .ok (.iload 5, 2) := by decide +kernel
theorem d4_16 : decode prog_59_method_6_code 16 = .ok (.dup2, 1) := by decide +kernel
theorem d4_17 : decode prog_59_method_6_code 17 = .ok (.daload, 1) := by decide +kernel
theorem d4_18 : decode prog_59_method_6_code 18 = .ok (.dload_n 3, 1) := by decide +kernel
theorem d4_19 : decode prog_59_method_6_code 19 = .ok (.aload_n 1, 1) := by decide +kernel
theorem d4_20 : decode prog_59_method_6_code 20 = .ok (.iload 5, 2) := by decide +kernel
theorem d4_22 : decode prog_59_method_6_code 22 = .ok (.daload, 1) := by decide +kernel
theorem d4_23 : decode prog_59_method_6_code 23 = .ok (.dmul, 1) := by decide +kernel
theorem d4_24 : decode prog_59_method_6_code 24 = .ok (.dadd, 1) := by decide +kernel
theorem d4_25 : decode prog_59_method_6_code 25 = .ok (.dastore, 1) := by decide +kernel
theorem d4_26 : decode prog_59_method_6_code 26 = .ok (.iinc 5 1, 3) := by decide +kernel
theorem d4_29 : decode prog_59_method_6_code 29 = .ok (.goto (-23), 3) := by decide +kernel
theorem d4_32 : decode prog_59_method_6_code 32 = .ok (.return_, 1) := by decide +kernel
theorem d5_0 : decode prog_60_method_3_code 0 = .ok (.aload_n 0, 1) := by decide +kernel
theorem d5_1 : decode prog_60_method_3_code 1 = .ok (.getfield 19, 3) := by decide +kernel
theorem d5_4 : decode prog_60_method_3_code 4 = .ok (.lconst 0, 1) := by decide +kernel
theorem d5_5 : decode prog_60_method_3_code 5 = .ok (.lcmp, 1) := by decide +kernel
theorem d5_6 : decode prog_60_method_3_code 6 = .ok (.ifCond .eq 5, 3) := by decide +kernel
theorem d5_9 : decode prog_60_method_3_code 9 = .ok (.iconst 1, 1) := by decide +kernel
theorem d5_10 : decode prog_60_method_3_code 10 = .ok (.ireturn, 1) := by decide +kernel
theorem d5_11 : decode prog_60_method_3_code 11 = .ok (.aload_n 0, 1) := by decide +kernel
theorem d5_12 : decode prog_60_method_3_code 12 = .ok (.getfield 7, 3) := by decide +kernel
theorem d5_15 : decode prog_60_method_3_code 15 = .ok (.astore_n 1, 1) := by decide +kernel
theorem d5_16 : decode prog_60_method_3_code 16 = .ok (.aload_n 1, 1) := by decide +kernel
theorem d5_17 : decode prog_60_method_3_code 17 = .ok (.arraylength, 1) := by decide +kernel
theorem d5_18 : decode prog_60_method_3_code 18 = .ok (.istore_n 2, 1) := by decide +kernel
theorem d5_19 : decode prog_60_method_3_code 19 = .ok (.iconst 0, 1) := by decide +kernel
theorem d5_20 : decode prog_60_method_3_code 20 = .ok (.istore_n 3, 1) := by decide +kernel
theorem d5_21 : decode prog_60_method_3_code 21 = .ok (.iload_n 3, 1) := by decide +kernel
theorem d5_22 : decode prog_60_method_3_code 22 = .ok (.iload_n 2, 1) := by decide +kernel
theorem d5_23 : decode prog_60_method_3_code 23 = .ok (.if_icmp .ge 23, 3) := by decide +kernel
theorem d5_26 : decode prog_60_method_3_code 26 = .ok (.aload_n 1, 1) := by decide +kernel
theorem d5_27 : decode prog_60_method_3_code 27 = .ok (.iload_n 3, 1) := by decide +kernel
theorem d5_28 : decode prog_60_method_3_code 28 = .ok (.daload, 1) := by decide +kernel
theorem d5_29 : decode prog_60_method_3_code 29 = .ok (.dstore 4, 2) := by decide +kernel
theorem d5_31 : decode prog_60_method_3_code 31 = .ok (.dload 4, 2) := by decide +kernel
theorem d5_33 : decode prog_60_method_3_code 33 = .ok (.dconst 0, 1) := by decide +kernel
theorem d5_34 : decode prog_60_method_3_code 34 = .ok (.dcmp .l, 1) := by decide +kernel
theorem d5_35 : decode prog_60_method_3_code 35 = .ok (.ifCond .eq 5, 3) := by decide +kernel
theorem d5_38 : decode prog_60_method_3_code 38 = .ok (.iconst 1, 1) := by decide +kernel
theorem d5_39 : decode prog_60_method_3_code 39 = .ok (.ireturn, 1) := by decide +kernel
theorem d5_40 : decode prog_60_method_3_code 40 = .ok (.iinc 3 1, 3) := by decide +kernel
theorem d5_43 : decode prog_60_method_3_code 43 = .ok (.goto (-22), 3) := by decide +kernel
theorem d5_46 : decode prog_60_method_3_code 46 = .ok (.iconst 0, 1) := by decide +kernel
theorem d5_47 : decode prog_60_method_3_code 47 = .ok (.ireturn, 1) := by decide +kernel
theorem pd0 : parseMethodDescriptor "([D[DI)V" = some ⟨[(.array .double), (.array .double), .int], none⟩ := by decide +kernel
theorem pd1 : parseMethodDescriptor "(I)V" = some ⟨[.int], none⟩ := by decide +kernel
theorem pd2 : parseMethodDescriptor "([DIJ)V" = some ⟨[(.array .double), .int, .long], none⟩ := by decide +kernel
theorem pd3 : parseMethodDescriptor "()Z" = some ⟨[], some .boolean⟩ := by decide +kernel
theorem pn0 : plainName x.cls = true := by first | (simp [x, plainName, overriddenIn]; done) | decide +kernel
theorem pn1 : plainName "com/example/rillgraph/rillgraph/core/model/Aggregator$Change" = true := by first | (simp [plainName, overriddenIn]; done) | decide +kernel
theorem pn2 : plainName "com/example/rillgraph/rillgraph/core/model/Aggregator" = true := by first | (simp [plainName, overriddenIn]; done) | decide +kernel

def Qini0 (Z : State) (a1 : Addr) (h0 : Heap) (n0 : Nat) (v : Option Value) (h : Heap) (L : List Loc) : Prop := ∃ b : Addr, ∃ k : ClassId, v = none ∧ Fr n0 L ∧ Keep h0 h [a1] ∧ Exa Z h a1 "com/example/rillgraph/rillgraph/core/model/Aggregator$Change" ∧ (h0.size ≤ b) ∧ Fld Z h a1 "com/example/rillgraph/rillgraph/core/model/Aggregator$Change" "sums" "[D" (.ref b) ∧ Fld Z h a1 "com/example/rillgraph/rillgraph/core/model/Aggregator$Change" "count" "J" (.long (0 : Int64)) ∧ Arv Z h b k .double (0 : Int32) [] (.double 0)
set_option maxRecDepth 65536 in
set_option maxHeartbeats 40000000 in
theorem rmini0 (l : Launch) (Z : State) (a0 : Array Value) (hw : ∀ d ∈ tables_1, d.before a0 Z = true) (a1 : Addr) (h0 : Heap) (n0 : Nat) (O0 : Old Z n0 h0) (E_a1 : Exa Z h0 a1 "com/example/rillgraph/rillgraph/core/model/Aggregator$Change") (F_a1_sums : Fld Z h0 a1 "com/example/rillgraph/rillgraph/core/model/Aggregator$Change" "sums" "[D" .null) (F_a1_count : Fld Z h0 a1 "com/example/rillgraph/rillgraph/core/model/Aggregator$Change" "count" "J" (.long (0 : Int64))) (na1 : n0 ≤ a1) :
    Met l Z (⟨"com/example/rillgraph/rillgraph/core/model/Aggregator$Change", "<init>", "(I)V"⟩ : MethodName) prog_60_method_1_code 2 none ({ frames := 1, cells := 1, slots := 0, locals := 12 } : Room) [] #[(.ref a1), (.int (0 : Int32))] h0 (Qini0 Z a1 h0 n0) := by
  refine met_of (L0 := #[.val (.ref a1), .val (.int (0 : Int32))]) (plainFor_of_name pn1) (fun m => by first | (simp [entryFrame, mkF, argsToLocals, Value.category]; done) | rfl) ?_
  intro p e s m below meth c T0 hx hby hml hown hnm hret hlk hZ X0 e0
  have N0 := Fr.nil n0
  have KK0 : Keep h0 h0 [a1] := Keep.refl _ _
  refine o_aloadN X0 hx (hb hby d1_0) rfl rfl rfl ?_
  refine o_initO X0 hx hZ hown (wd8 hw) (wd9 hw) (wd10 hw) e0 (by rw [hml]; rfl) (hb hby d1_1) (by decide) (W := 0) rfl (by decide) rfl fun T1 X1 e1 => ?_
  refine o_aloadN X1 hx (hb hby d1_4) rfl rfl rfl ?_
  refine o_iloadN X1 hx (hb hby d1_5) rfl rfl ?_
  refine o_newP (aty := .double) X1 hx hZ (wd1 hw) e1 (hb hby d1_6) (by decide) (cap := 0) (by decide) (by decide) (by decide) (by decide) (cells' := 1) (slots' := 0) rfl rfl rfl fun T6 h6 k6 b6 g6 X6 e6 E6 A6 => ?_
  have s_b6_h0 : h0.size ≤ b6 := Nat.le_trans KK0.1 (Nat.le_of_eq g6.symm)
  have n_b6 : n0 ≤ b6 := Nat.le_trans (O0.1 ▸ O0.2.1) (Nat.le_of_eq g6.symm)
  have KE6_h0 : Keep h0 h6 [a1] := KK0.ext E6
  have OE6 : Old Z n0 h6 := O0.ext E6
  have A_b6 : Arv Z h6 b6 k6 .double (0 : Int32) [] (.double 0) := (Arv.new A6 (by decide)).pad (pad_rep [] (.double 0) 0)
  have fF8 : Fld Z h6 a1 "com/example/rillgraph/rillgraph/core/model/Aggregator$Change" "sums" "[D" .null := (F_a1_sums.ext E6)
  have fE8 : Exa Z h6 a1 "com/example/rillgraph/rillgraph/core/model/Aggregator$Change" := (E_a1.ext E6)
  refine o_putF X6 hx hZ hown (host := "") (Or.inl (wd11 hw)) Via.refl e6 fF8 fE8 (Or.inr ⟨(wd12 hw), rfl, hnm⟩) (wd3 hw) (ty := (.array .double)) (by decide) rfl rfl (hb hby d1_8) rfl fun T8 h8 X8 e8 W8 => ?_
  have F8 : Fld Z h8 a1 "com/example/rillgraph/rillgraph/core/model/Aggregator$Change" "sums" "[D" (.ref b6) := fF8.same W8
  have N8 := Fr.snoc X8 N0 na1
  have KW8_h0 : Keep h0 h8 [a1] := KE6_h0.wr W8 (Or.inl (List.mem_of_getElem? (i := 0) rfl))
  have OW8 : Old Z n0 h8 := OE6.wr W8 na1
  have fE11 : Exa Z h8 a1 "com/example/rillgraph/rillgraph/core/model/Aggregator$Change" := (fE8.wr W8)
  have fF11 : Fld Z h8 a1 "com/example/rillgraph/rillgraph/core/model/Aggregator$Change" "count" "J" (.long (0 : Int64)) := ((F_a1_count.ext E6).other W8 (Or.inr (slot_ne (Z := Z) (a0 := a0) (Or.inl (wd23 hw)) (Or.inr (wd12 hw)) (by decide) (t := .long) (t' := (.array .double)) (by decide) (by decide))))
  have fA11 : Arv Z h8 b6 k6 .double (0 : Int32) [] (.double 0) := (A_b6.other W8 (Ne.symm (Nat.ne_of_lt (Nat.lt_of_lt_of_le E_a1.lt (Nat.le_of_eq g6.symm)))))
  exact o_retV X8 hx hlk hret (hb hby d1_11) (by decide) (by decide) e8 ⟨b6, k6, rfl, N8, KW8_h0, fE11, s_b6_h0, F8, fF11, fA11⟩
def Qadt0 (Z : State) (a1 : Addr) (a2 : Addr) (k1 : ClassId) (k2 : ClassId) (p2 : Int32) (w0 : UInt64) (w1 : UInt64) (c0 : Int) (c1 : Int) (h0 : Heap) (n0 : Nat) (v : Option Value) (h : Heap) (L : List Loc) : Prop := v = none ∧ Fr n0 L ∧ Keep h0 h [a1] ∧ Arv Z h a1 k1 .double (0 : Int32) [] (.double 0)
set_option maxRecDepth 65536 in
set_option maxHeartbeats 40000000 in
theorem rmadt0 (l : Launch) (Z : State) (a0 : Array Value) (hw : ∀ d ∈ tables_1, d.before a0 Z = true) (a1 : Addr) (a2 : Addr) (k1 : ClassId) (k2 : ClassId) (p2 : Int32) (w0 : UInt64) (w1 : UInt64) (c0 : Int) (c1 : Int) (h0 : Heap) (n0 : Nat) (O0 : Old Z n0 h0) (A_a1 : Arv Z h0 a1 k1 .double (0 : Int32) [] (.double 0)) (A_a2 : Arv Z h0 a2 k2 .double (2 : Int32) [(.double w0), (.double w1)] (.double 0)) (na1 : n0 ≤ a1) (ne12 : a1 ≠ a2) (hw0 : Jvm.FP.Core.DInt c0 w0) (hwb0 : c0.natAbs ≤ 999) (hw1 : Jvm.FP.Core.DInt c1 w1) (hwb1 : c1.natAbs ≤ 999) :
    Met l Z (⟨"com/example/rillgraph/rillgraph/core/model/Aggregator", "addTimes", "([D[DI)V"⟩ : MethodName) prog_59_method_6_code 6 none ({ frames := 0, cells := 0, slots := 0, locals := 0 } : Room) [] #[(.ref a1), (.ref a2), (.int p2)] h0 (Qadt0 Z a1 a2 k1 k2 p2 w0 w1 c0 c1 h0 n0) := by
  refine met_of (L0 := #[.val (.ref a1), .val (.ref a2), .val (.int p2), .unset, .unset, .unset]) (plainFor_of_name pn2) (fun m => by first | (simp [entryFrame, mkF, argsToLocals, Value.category]; done) | rfl) ?_
  intro p e s m below meth c T0 hx hby hml hown hnm hret hlk hZ X0 e0
  have N0 := Fr.nil n0
  have KK0 : Keep h0 h0 [a1] := Keep.refl _ _
  refine o_iloadN X0 hx (hb hby d4_0) rfl rfl ?_
  have hm1 : p2.toInt.natAbs ≤ 2147483648 := own_i32b _
  refine o_i2dI X0 hx (hb hby d4_1) rfl fun d1 hd1 => ?_
  refine o_dstoreN X0 hx (hb hby d4_2) (L' := #[.val (.ref a1), .val (.ref a2), .val (.int p2), .val (.double d1), .second, .unset]) rfl rfl ?_
  refine o_iconst X0 hx (hb hby d4_3) (v := (0 : Int32)) rfl rfl ?_
  refine o_istore X0 hx (hb hby d4_4) (L' := #[.val (.ref a1), .val (.ref a2), .val (.int p2), .val (.double d1), .second, .val (.int (0 : Int32))]) rfl rfl ?_
  refine o_iload X0 hx (hb hby d4_6) rfl rfl ?_
  refine o_aloadN X0 hx (hb hby d4_8) rfl rfl rfl ?_
  refine o_alen X0 hx hZ e0 A_a1 (hb hby d4_9) rfl ?_
  refine o_icmpYes X0 hx (hb hby d4_10) (flt (by decide)).2.1 (by decide) (pc' := 32) (by decide) ?_
  exact o_retV X0 hx hlk hret (hb hby d4_32) (by decide) (by decide) e0 ⟨rfl, N0, KK0, A_a1⟩
def Qadd0 (Z : State) (a1 : Addr) (b : Addr) (a2 : Addr) (k1 : ClassId) (k2 : ClassId) (p2 : Int32) (p3 : Int64) (cnt : Int64) (w0 : UInt64) (w1 : UInt64) (c0 : Int) (c1 : Int) (h0 : Heap) (n0 : Nat) (v : Option Value) (h : Heap) (L : List Loc) : Prop := v = none ∧ Fr n0 L ∧ Keep h0 h [a1, b] ∧ Exa Z h a1 "com/example/rillgraph/rillgraph/core/model/Aggregator$Change" ∧ Fld Z h a1 "com/example/rillgraph/rillgraph/core/model/Aggregator$Change" "sums" "[D" (.ref b) ∧ Fld Z h a1 "com/example/rillgraph/rillgraph/core/model/Aggregator$Change" "count" "J" (.long (cnt + p3)) ∧ Arv Z h b k1 .double (0 : Int32) [] (.double 0)
set_option maxRecDepth 65536 in
set_option maxHeartbeats 40000000 in
theorem rmadd0 (l : Launch) (Z : State) (a0 : Array Value) (hw : ∀ d ∈ tables_1, d.before a0 Z = true) (a1 : Addr) (b : Addr) (a2 : Addr) (k1 : ClassId) (k2 : ClassId) (p2 : Int32) (p3 : Int64) (cnt : Int64) (w0 : UInt64) (w1 : UInt64) (c0 : Int) (c1 : Int) (h0 : Heap) (n0 : Nat) (O0 : Old Z n0 h0) (E_a1 : Exa Z h0 a1 "com/example/rillgraph/rillgraph/core/model/Aggregator$Change") (F_a1_sums : Fld Z h0 a1 "com/example/rillgraph/rillgraph/core/model/Aggregator$Change" "sums" "[D" (.ref b)) (F_a1_count : Fld Z h0 a1 "com/example/rillgraph/rillgraph/core/model/Aggregator$Change" "count" "J" (.long cnt)) (A_b : Arv Z h0 b k1 .double (0 : Int32) [] (.double 0)) (A_a2 : Arv Z h0 a2 k2 .double (2 : Int32) [(.double w0), (.double w1)] (.double 0)) (na1 : n0 ≤ a1) (nb : n0 ≤ b) (neb2 : b ≠ a2) (ne1b : a1 ≠ b) (ne12 : a1 ≠ a2) (hw0 : Jvm.FP.Core.DInt c0 w0) (hwb0 : c0.natAbs ≤ 999) (hw1 : Jvm.FP.Core.DInt c1 w1) (hwb1 : c1.natAbs ≤ 999) :
    Met l Z (⟨"com/example/rillgraph/rillgraph/core/model/Aggregator$Change", "add", "([DIJ)V"⟩ : MethodName) prog_60_method_2_code 5 none ({ frames := 1, cells := 0, slots := 0, locals := 17 } : Room) [] #[(.ref a1), (.ref a2), (.int p2), (.long p3)] h0 (Qadd0 Z a1 b a2 k1 k2 p2 p3 cnt w0 w1 c0 c1 h0 n0) := by
  refine met_of (L0 := #[.val (.ref a1), .val (.ref a2), .val (.int p2), .val (.long p3), .second]) (plainFor_of_name pn1) (fun m => by first | (simp [entryFrame, mkF, argsToLocals, Value.category]; done) | rfl) ?_
  intro p e s m below meth c T0 hx hby hml hown hnm hret hlk hZ X0 e0
  have N0 := Fr.nil n0
  have KK0 : Keep h0 h0 [a1, b] := Keep.refl _ _
  refine o_aloadN X0 hx (hb hby d3_0) rfl rfl rfl ?_
  refine o_getF X0 hx hZ hown (host := "") (Or.inl (wd11 hw)) Via.refl e0 F_a1_sums (hb hby d3_1) rfl fun T1 X1 e1 => ?_
  refine o_aloadN X1 hx (hb hby d3_4) rfl rfl rfl ?_
  refine o_iloadN X1 hx (hb hby d3_5) rfl rfl ?_
  refine o_staticN X1 hx hZ hown (wd18 hw) (wd19 hw) (by decide) (rmadt0 l Z a0 hw b a2 k1 k2 p2 w0 w1 c0 c1 h0 n0 O0 A_b A_a2 nb neb2 (hw0) (hwb0) (hw1) (hwb1)) (wd21 hw) (wd20 hw) e1 (by rw [hml]; rfl) (argsL := [(.ref b), (.ref a2), (.int p2)]) (rest := []) (W := 0) pd0 rfl rfl rfl rfl (hb hby d3_6) (by decide) (by decide) (by decide) (by decide) (cells' := 0) (slots' := 0) rfl rfl rfl fun v6 T6 h6 Lc6 X6 e6 hq6 => ?_
  obtain ⟨rfl, N6q, K6, qA_6⟩ := hq6
  have N6 := Fr.app N0 N6q
  have KK6_h0 : Keep h0 h6 [a1, b] := KK0.trans K6 (allS (Or.inl (List.mem_of_getElem? (i := 1) rfl)) all0)
  have OK6 : Old Z n0 h6 := O0.keep K6 (allS nb all0)
  show Goes p.tables e below (Ends s (Qadd0 Z a1 b a2 k1 k2 p2 p3 cnt w0 w1 c0 c1 h0 n0) ({ frames := 1, cells := 0, slots := 0, locals := 17 } : Room).cells ({ frames := 1, cells := 0, slots := 0, locals := 17 } : Room).slots) (T6.setTop (mkF m 9 #[.val (.ref a1), .val (.ref a2), .val (.int p2), .val (.long p3), .second] []))
  refine o_aloadN X6 hx (hb hby d3_9) rfl rfl rfl ?_
  refine o_dup X6 hx (hb hby d3_10) rfl rfl ?_
  have fF11 : Fld Z h6 a1 "com/example/rillgraph/rillgraph/core/model/Aggregator$Change" "count" "J" (.long cnt) := (F_a1_count.keep K6 (ninS ne1b nin0))
  refine o_getF X6 hx hZ hown (host := "") (Or.inl (wd22 hw)) Via.refl e6 fF11 (hb hby d3_11) rfl fun T11 X11 e11 => ?_
  refine o_lloadN X11 hx (hb hby d3_14) rfl rfl ?_
  refine o_ladd X11 hx (hb hby d3_15) rfl ?_
  have fE16 : Exa Z h6 a1 "com/example/rillgraph/rillgraph/core/model/Aggregator$Change" := (E_a1.keep K6)
  refine o_putF X11 hx hZ hown (host := "") (Or.inl (wd22 hw)) Via.refl e11 fF11 fE16 (Or.inl (wd23 hw)) (wd3 hw) (ty := .long) (by decide) rfl rfl (hb hby d3_16) rfl fun T16 h16 X16 e16 W16 => ?_
  have F16 : Fld Z h16 a1 "com/example/rillgraph/rillgraph/core/model/Aggregator$Change" "count" "J" (.long (cnt + p3)) := fF11.same W16
  have N16 := Fr.snoc X16 N6 na1
  have KW16_h0 : Keep h0 h16 [a1, b] := KK6_h0.wr W16 (Or.inl (List.mem_of_getElem? (i := 0) rfl))
  have OW16 : Old Z n0 h16 := OK6.wr W16 na1
  have fE19 : Exa Z h16 a1 "com/example/rillgraph/rillgraph/core/model/Aggregator$Change" := (fE16.wr W16)
  have fF19 : Fld Z h16 a1 "com/example/rillgraph/rillgraph/core/model/Aggregator$Change" "sums" "[D" (.ref b) := ((F_a1_sums.keep K6 (ninS ne1b nin0)).other W16 (Or.inr (slot_ne (Z := Z) (a0 := a0) (Or.inr (wd12 hw)) (Or.inl (wd23 hw)) (by decide) (t := (.array .double)) (t' := .long) (by decide) (by decide))))
  have fA19 : Arv Z h16 b k1 .double (0 : Int32) [] (.double 0) := (qA_6.other W16 (Ne.symm ne1b))
  exact o_retV X16 hx hlk hret (hb hby d3_19) (by decide) (by decide) e16 ⟨rfl, N16, KW16_h0, fE19, fF19, F16, fA19⟩
def Qchg0 (Z : State) (a1 : Addr) (b : Addr) (k1 : ClassId) (cnt : Int64) (h0 : Heap) (n0 : Nat) (v : Option Value) (h : Heap) (L : List Loc) : Prop := ∃ z : Int32, v = some (.int z) ∧ Fr n0 L ∧ h = h0 ∧ (z = 1 ∧ (¬ (cnt = (0 : Int64))) ∨ z = 0 ∧ ¬ (¬ (cnt = (0 : Int64))))
set_option maxRecDepth 65536 in
set_option maxHeartbeats 40000000 in
theorem rmchg0 (l : Launch) (Z : State) (a0 : Array Value) (hw : ∀ d ∈ tables_1, d.before a0 Z = true) (a1 : Addr) (b : Addr) (k1 : ClassId) (cnt : Int64) (h0 : Heap) (n0 : Nat) (O0 : Old Z n0 h0) (F_a1_sums : Fld Z h0 a1 "com/example/rillgraph/rillgraph/core/model/Aggregator$Change" "sums" "[D" (.ref b)) (F_a1_count : Fld Z h0 a1 "com/example/rillgraph/rillgraph/core/model/Aggregator$Change" "count" "J" (.long cnt)) (A_b : Arv Z h0 b k1 .double (0 : Int32) [] (.double 0)) :
    Met l Z (⟨"com/example/rillgraph/rillgraph/core/model/Aggregator$Change", "changes", "()Z"⟩ : MethodName) prog_60_method_3_code 6 (some .boolean) ({ frames := 0, cells := 0, slots := 0, locals := 0 } : Room) [] #[(.ref a1)] h0 (Qchg0 Z a1 b k1 cnt h0 n0) := by
  refine met_of (L0 := #[.val (.ref a1), .unset, .unset, .unset, .unset, .unset]) (plainFor_of_name pn1) (fun m => by first | (simp [entryFrame, mkF, argsToLocals, Value.category]; done) | rfl) ?_
  intro p e s m below meth c T0 hx hby hml hown hnm hret hlk hZ X0 e0
  have N0 := Fr.nil n0
  refine o_aloadN X0 hx (hb hby d5_0) rfl rfl rfl ?_
  refine o_getF X0 hx hZ hown (host := "") (Or.inl (wd22 hw)) Via.refl e0 F_a1_count (hb hby d5_1) rfl fun T1 X1 e1 => ?_
  refine o_lconst X1 hx (hb hby d5_4) (v := (0 : Int64)) rfl rfl ?_
  refine o_lcmp X1 hx (hb hby d5_5) rfl ?_
  by_cases hc6 : cnt = (0 : Int64)
  ·
    refine o_ifYes X1 hx (hb hby d5_6) ((if0 _ _).trans (teq ((lw_eq _ _).mpr hc6)).1) (by decide) (pc' := 11) (by decide) ?_
    refine o_aloadN X1 hx (hb hby d5_11) rfl rfl rfl ?_
    refine o_getF X1 hx hZ hown (host := "") (Or.inl (wd11 hw)) Via.refl e1 F_a1_sums (hb hby d5_12) rfl fun T12 X12 e12 => ?_
    refine o_astoreN X12 hx (hb hby d5_15) rfl (L' := #[.val (.ref a1), .val (.ref b), .unset, .unset, .unset, .unset]) rfl rfl ?_
    refine o_aloadN X12 hx (hb hby d5_16) rfl rfl rfl ?_
    refine o_alen X12 hx hZ e12 A_b (hb hby d5_17) rfl ?_
    refine o_istoreN X12 hx (hb hby d5_18) (L' := #[.val (.ref a1), .val (.ref b), .val (.int (0 : Int32)), .unset, .unset, .unset]) rfl rfl ?_
    refine o_iconst X12 hx (hb hby d5_19) (v := (0 : Int32)) rfl rfl ?_
    refine o_istoreN X12 hx (hb hby d5_20) (L' := #[.val (.ref a1), .val (.ref b), .val (.int (0 : Int32)), .val (.int (0 : Int32)), .unset, .unset]) rfl rfl ?_
    refine o_iloadN X12 hx (hb hby d5_21) rfl rfl ?_
    refine o_iloadN X12 hx (hb hby d5_22) rfl rfl ?_
    refine o_icmpYes X12 hx (hb hby d5_23) (flt (by decide)).2.1 (by decide) (pc' := 46) (by decide) ?_
    refine o_iconst X12 hx (hb hby d5_46) (v := (0 : Int32)) rfl rfl ?_
    exact o_ret X12 hx hlk (t := .boolean) hret rfl (Or.inl ⟨rfl, by decide, _, rfl⟩) (hb hby d5_47) (by decide) (by decide) e12 ⟨(0 : Int32), rfl, N0, rfl, (Or.inr ⟨rfl, fun q => q hc6⟩)⟩
  ·
    refine o_ifNo X1 hx (hb hby d5_6) ((if0 _ _).trans (feq (fun q => hc6 ((lw_eq _ _).mp q))).1) rfl ?_
    refine o_iconst X1 hx (hb hby d5_9) (v := (1 : Int32)) rfl rfl ?_
    exact o_ret X1 hx hlk (t := .boolean) hret rfl (Or.inl ⟨rfl, by decide, _, rfl⟩) (hb hby d5_10) (by decide) (by decide) e1 ⟨(1 : Int32), rfl, N0, rfl, (Or.inl ⟨rfl, hc6⟩)⟩
def Qini1 (Z : State) (a1 : Addr) (h0 : Heap) (n0 : Nat) (v : Option Value) (h : Heap) (L : List Loc) : Prop := ∃ b : Addr, ∃ k : ClassId, v = none ∧ Fr n0 L ∧ Keep h0 h [a1] ∧ Exa Z h a1 "com/example/rillgraph/rillgraph/core/model/Aggregator$Change" ∧ (h0.size ≤ b) ∧ Fld Z h a1 "com/example/rillgraph/rillgraph/core/model/Aggregator$Change" "sums" "[D" (.ref b) ∧ Fld Z h a1 "com/example/rillgraph/rillgraph/core/model/Aggregator$Change" "count" "J" (.long (0 : Int64)) ∧ Arv Z h b k .double (1 : Int32) [(.double 0)] (.double 0)
set_option maxRecDepth 65536 in
set_option maxHeartbeats 40000000 in
theorem rmini1 (l : Launch) (Z : State) (a0 : Array Value) (hw : ∀ d ∈ tables_1, d.before a0 Z = true) (a1 : Addr) (h0 : Heap) (n0 : Nat) (O0 : Old Z n0 h0) (E_a1 : Exa Z h0 a1 "com/example/rillgraph/rillgraph/core/model/Aggregator$Change") (F_a1_sums : Fld Z h0 a1 "com/example/rillgraph/rillgraph/core/model/Aggregator$Change" "sums" "[D" .null) (F_a1_count : Fld Z h0 a1 "com/example/rillgraph/rillgraph/core/model/Aggregator$Change" "count" "J" (.long (0 : Int64))) (na1 : n0 ≤ a1) :
    Met l Z (⟨"com/example/rillgraph/rillgraph/core/model/Aggregator$Change", "<init>", "(I)V"⟩ : MethodName) prog_60_method_1_code 2 none ({ frames := 1, cells := 1, slots := 1, locals := 12 } : Room) [] #[(.ref a1), (.int (1 : Int32))] h0 (Qini1 Z a1 h0 n0) := by
  refine met_of (L0 := #[.val (.ref a1), .val (.int (1 : Int32))]) (plainFor_of_name pn1) (fun m => by first | (simp [entryFrame, mkF, argsToLocals, Value.category]; done) | rfl) ?_
  intro p e s m below meth c T0 hx hby hml hown hnm hret hlk hZ X0 e0
  have N0 := Fr.nil n0
  have KK0 : Keep h0 h0 [a1] := Keep.refl _ _
  refine o_aloadN X0 hx (hb hby d1_0) rfl rfl rfl ?_
  refine o_initO X0 hx hZ hown (wd8 hw) (wd9 hw) (wd10 hw) e0 (by rw [hml]; rfl) (hb hby d1_1) (by decide) (W := 0) rfl (by decide) rfl fun T1 X1 e1 => ?_
  refine o_aloadN X1 hx (hb hby d1_4) rfl rfl rfl ?_
  refine o_iloadN X1 hx (hb hby d1_5) rfl rfl ?_
  refine o_newP (aty := .double) X1 hx hZ (wd1 hw) e1 (hb hby d1_6) (by decide) (cap := 1) (by decide) (by decide) (by decide) (by decide) (cells' := 1) (slots' := 1) rfl rfl rfl fun T6 h6 k6 b6 g6 X6 e6 E6 A6 => ?_
  have s_b6_h0 : h0.size ≤ b6 := Nat.le_trans KK0.1 (Nat.le_of_eq g6.symm)
  have n_b6 : n0 ≤ b6 := Nat.le_trans (O0.1 ▸ O0.2.1) (Nat.le_of_eq g6.symm)
  have KE6_h0 : Keep h0 h6 [a1] := KK0.ext E6
  have OE6 : Old Z n0 h6 := O0.ext E6
  have A_b6 : Arv Z h6 b6 k6 .double (1 : Int32) [(.double 0)] (.double 0) := (Arv.new A6 (by decide)).pad (pad_rep [] (.double 0) 1)
  have fF8 : Fld Z h6 a1 "com/example/rillgraph/rillgraph/core/model/Aggregator$Change" "sums" "[D" .null := (F_a1_sums.ext E6)
  have fE8 : Exa Z h6 a1 "com/example/rillgraph/rillgraph/core/model/Aggregator$Change" := (E_a1.ext E6)
  refine o_putF X6 hx hZ hown (host := "") (Or.inl (wd11 hw)) Via.refl e6 fF8 fE8 (Or.inr ⟨(wd12 hw), rfl, hnm⟩) (wd3 hw) (ty := (.array .double)) (by decide) rfl rfl (hb hby d1_8) rfl fun T8 h8 X8 e8 W8 => ?_
  have F8 : Fld Z h8 a1 "com/example/rillgraph/rillgraph/core/model/Aggregator$Change" "sums" "[D" (.ref b6) := fF8.same W8
  have N8 := Fr.snoc X8 N0 na1
  have KW8_h0 : Keep h0 h8 [a1] := KE6_h0.wr W8 (Or.inl (List.mem_of_getElem? (i := 0) rfl))
  have OW8 : Old Z n0 h8 := OE6.wr W8 na1
  have fE11 : Exa Z h8 a1 "com/example/rillgraph/rillgraph/core/model/Aggregator$Change" := (fE8.wr W8)
  have fF11 : Fld Z h8 a1 "com/example/rillgraph/rillgraph/core/model/Aggregator$Change" "count" "J" (.long (0 : Int64)) := ((F_a1_count.ext E6).other W8 (Or.inr (slot_ne (Z := Z) (a0 := a0) (Or.inl (wd23 hw)) (Or.inr (wd12 hw)) (by decide) (t := .long) (t' := (.array .double)) (by decide) (by decide))))
  have fA11 : Arv Z h8 b6 k6 .double (1 : Int32) [(.double 0)] (.double 0) := (A_b6.other W8 (Ne.symm (Nat.ne_of_lt (Nat.lt_of_lt_of_le E_a1.lt (Nat.le_of_eq g6.symm)))))
  exact o_retV X8 hx hlk hret (hb hby d1_11) (by decide) (by decide) e8 ⟨b6, k6, rfl, N8, KW8_h0, fE11, s_b6_h0, F8, fF11, fA11⟩
def Qadt1 (Z : State) (a1 : Addr) (a2 : Addr) (k1 : ClassId) (k2 : ClassId) (p2 : Int32) (u0 : UInt64) (w0 : UInt64) (w1 : UInt64) (s0 : Int) (c0 : Int) (c1 : Int) (h0 : Heap) (n0 : Nat) (v : Option Value) (h : Heap) (L : List Loc) : Prop := ∃ x0 : UInt64, v = none ∧ Fr n0 L ∧ Keep h0 h [a1] ∧ Arv Z h a1 k1 .double (1 : Int32) [(.double x0)] (.double 0) ∧ (Jvm.FP.Core.DInt (s0 + (p2.toInt * c0)) x0)
set_option maxRecDepth 65536 in
set_option maxHeartbeats 40000000 in
theorem rmadt1 (l : Launch) (Z : State) (a0 : Array Value) (hw : ∀ d ∈ tables_1, d.before a0 Z = true) (a1 : Addr) (a2 : Addr) (k1 : ClassId) (k2 : ClassId) (p2 : Int32) (u0 : UInt64) (w0 : UInt64) (w1 : UInt64) (s0 : Int) (c0 : Int) (c1 : Int) (h0 : Heap) (n0 : Nat) (O0 : Old Z n0 h0) (A_a1 : Arv Z h0 a1 k1 .double (1 : Int32) [(.double u0)] (.double 0)) (A_a2 : Arv Z h0 a2 k2 .double (2 : Int32) [(.double w0), (.double w1)] (.double 0)) (na1 : n0 ≤ a1) (ne12 : a1 ≠ a2) (hs0 : Jvm.FP.Core.DInt s0 u0) (hsb0 : s0.natAbs ≤ 4290672328704) (hw0 : Jvm.FP.Core.DInt c0 w0) (hwb0 : c0.natAbs ≤ 999) (hw1 : Jvm.FP.Core.DInt c1 w1) (hwb1 : c1.natAbs ≤ 999) :
    Met l Z (⟨"com/example/rillgraph/rillgraph/core/model/Aggregator", "addTimes", "([D[DI)V"⟩ : MethodName) prog_59_method_6_code 6 none ({ frames := 0, cells := 0, slots := 0, locals := 0 } : Room) [] #[(.ref a1), (.ref a2), (.int p2)] h0 (Qadt1 Z a1 a2 k1 k2 p2 u0 w0 w1 s0 c0 c1 h0 n0) := by
  refine met_of (L0 := #[.val (.ref a1), .val (.ref a2), .val (.int p2), .unset, .unset, .unset]) (plainFor_of_name pn2) (fun m => by first | (simp [entryFrame, mkF, argsToLocals, Value.category]; done) | rfl) ?_
  intro p e s m below meth c T0 hx hby hml hown hnm hret hlk hZ X0 e0
  have N0 := Fr.nil n0
  have KK0 : Keep h0 h0 [a1] := Keep.refl _ _
  refine o_iloadN X0 hx (hb hby d4_0) rfl rfl ?_
  have hm1 : p2.toInt.natAbs ≤ 2147483648 := own_i32b _
  refine o_i2dI X0 hx (hb hby d4_1) rfl fun d1 hd1 => ?_
  refine o_dstoreN X0 hx (hb hby d4_2) (L' := #[.val (.ref a1), .val (.ref a2), .val (.int p2), .val (.double d1), .second, .unset]) rfl rfl ?_
  refine o_iconst X0 hx (hb hby d4_3) (v := (0 : Int32)) rfl rfl ?_
  refine o_istore X0 hx (hb hby d4_4) (L' := #[.val (.ref a1), .val (.ref a2), .val (.int p2), .val (.double d1), .second, .val (.int (0 : Int32))]) rfl rfl ?_
  refine o_iload X0 hx (hb hby d4_6) rfl rfl ?_
  refine o_aloadN X0 hx (hb hby d4_8) rfl rfl rfl ?_
  refine o_alen X0 hx hZ e0 A_a1 (hb hby d4_9) rfl ?_
  refine o_icmpNo X0 hx (hb hby d4_10) (tlt (by decide)).2.1 rfl ?_
  refine o_aloadN X0 hx (hb hby d4_13) rfl rfl rfl ?_
  refine o_iload X0 hx (hb hby d4_14) rfl rfl ?_
  refine o_dup2 X0 hx (hb hby d4_16) rfl rfl rfl ?_
  refine o_daload X0 hx hZ e0 A_a1 ⟨by decide, by decide⟩ (v := (.double u0)) rfl (hb hby d4_17) rfl ?_
  refine o_dloadN X0 hx (hb hby d4_18) rfl rfl ?_
  refine o_aloadN X0 hx (hb hby d4_19) rfl rfl rfl ?_
  refine o_iload X0 hx (hb hby d4_20) rfl rfl ?_
  refine o_daload X0 hx hZ e0 A_a2 ⟨by decide, by decide⟩ (v := (.double w0)) rfl (hb hby d4_22) rfl ?_
  have hm23 : (p2.toInt * c0).natAbs ≤ 2145336164352 := own_mulb hm1 hwb0 rfl
  refine o_dmulI X0 hx (hb hby d4_23) hd1 hw0 (k := (p2.toInt * c0)) rfl (Nat.le_trans hm23 (by decide)) rfl fun d23 hd23 => ?_
  have hm24 : (s0 + (p2.toInt * c0)).natAbs ≤ 6436008493056 := own_addb hsb0 hm23 rfl
  refine o_daddI X0 hx (hb hby d4_24) hs0 hd23 (k := (s0 + (p2.toInt * c0))) rfl (Nat.le_trans hm24 (by decide)) rfl fun d24 hd24 => ?_
  refine o_stD X0 hx hZ e0 A_a1 (i := 0) ⟨by decide, by decide⟩ (by decide) (Nat.le_of_ble_eq_true rfl) (hb hby d4_25) rfl fun T25 h25 X25 e25 W25 (A25 : Arv Z h25 a1 k1 .double (1 : Int32) [(.double d24)] (.double 0)) => ?_
  have N25 := Fr.snoc X25 N0 na1
  have KW25_h0 : Keep h0 h25 [a1] := KK0.wr W25 (Or.inl (List.mem_of_getElem? (i := 0) rfl))
  have OW25 : Old Z n0 h25 := O0.wr W25 na1
  refine o_iinc X25 hx (hb hby d4_26) rfl (v := (1 : Int32)) rfl (L' := #[.val (.ref a1), .val (.ref a2), .val (.int p2), .val (.double d1), .second, .val (.int (1 : Int32))]) rfl rfl ?_
  refine o_goto X25 hx (hb hby d4_29) (by decide) (pc' := 6) (by decide) ?_
  refine o_iload X25 hx (hb hby d4_6) rfl rfl ?_
  refine o_aloadN X25 hx (hb hby d4_8) rfl rfl rfl ?_
  refine o_alen X25 hx hZ e25 A25 (hb hby d4_9) rfl ?_
  refine o_icmpYes X25 hx (hb hby d4_10) (flt (by decide)).2.1 (by decide) (pc' := 32) (by decide) ?_
  exact o_retV X25 hx hlk hret (hb hby d4_32) (by decide) (by decide) e25 ⟨d24, rfl, N25, KW25_h0, A25, hd24⟩
def Qadd1 (Z : State) (a1 : Addr) (b : Addr) (a2 : Addr) (k1 : ClassId) (k2 : ClassId) (p2 : Int32) (p3 : Int64) (cnt : Int64) (u0 : UInt64) (w0 : UInt64) (w1 : UInt64) (s0 : Int) (c0 : Int) (c1 : Int) (h0 : Heap) (n0 : Nat) (v : Option Value) (h : Heap) (L : List Loc) : Prop := ∃ x0 : UInt64, v = none ∧ Fr n0 L ∧ Keep h0 h [a1, b] ∧ Exa Z h a1 "com/example/rillgraph/rillgraph/core/model/Aggregator$Change" ∧ Fld Z h a1 "com/example/rillgraph/rillgraph/core/model/Aggregator$Change" "sums" "[D" (.ref b) ∧ Fld Z h a1 "com/example/rillgraph/rillgraph/core/model/Aggregator$Change" "count" "J" (.long (cnt + p3)) ∧ Arv Z h b k1 .double (1 : Int32) [(.double x0)] (.double 0) ∧ (Jvm.FP.Core.DInt (s0 + (p2.toInt * c0)) x0)
set_option maxRecDepth 65536 in
set_option maxHeartbeats 40000000 in
theorem rmadd1 (l : Launch) (Z : State) (a0 : Array Value) (hw : ∀ d ∈ tables_1, d.before a0 Z = true) (a1 : Addr) (b : Addr) (a2 : Addr) (k1 : ClassId) (k2 : ClassId) (p2 : Int32) (p3 : Int64) (cnt : Int64) (u0 : UInt64) (w0 : UInt64) (w1 : UInt64) (s0 : Int) (c0 : Int) (c1 : Int) (h0 : Heap) (n0 : Nat) (O0 : Old Z n0 h0) (E_a1 : Exa Z h0 a1 "com/example/rillgraph/rillgraph/core/model/Aggregator$Change") (F_a1_sums : Fld Z h0 a1 "com/example/rillgraph/rillgraph/core/model/Aggregator$Change" "sums" "[D" (.ref b)) (F_a1_count : Fld Z h0 a1 "com/example/rillgraph/rillgraph/core/model/Aggregator$Change" "count" "J" (.long cnt)) (A_b : Arv Z h0 b k1 .double (1 : Int32) [(.double u0)] (.double 0)) (A_a2 : Arv Z h0 a2 k2 .double (2 : Int32) [(.double w0), (.double w1)] (.double 0)) (na1 : n0 ≤ a1) (nb : n0 ≤ b) (neb2 : b ≠ a2) (ne1b : a1 ≠ b) (ne12 : a1 ≠ a2) (hs0 : Jvm.FP.Core.DInt s0 u0) (hsb0 : s0.natAbs ≤ 4290672328704) (hw0 : Jvm.FP.Core.DInt c0 w0) (hwb0 : c0.natAbs ≤ 999) (hw1 : Jvm.FP.Core.DInt c1 w1) (hwb1 : c1.natAbs ≤ 999) :
    Met l Z (⟨"com/example/rillgraph/rillgraph/core/model/Aggregator$Change", "add", "([DIJ)V"⟩ : MethodName) prog_60_method_2_code 5 none ({ frames := 1, cells := 0, slots := 0, locals := 17 } : Room) [] #[(.ref a1), (.ref a2), (.int p2), (.long p3)] h0 (Qadd1 Z a1 b a2 k1 k2 p2 p3 cnt u0 w0 w1 s0 c0 c1 h0 n0) := by
  refine met_of (L0 := #[.val (.ref a1), .val (.ref a2), .val (.int p2), .val (.long p3), .second]) (plainFor_of_name pn1) (fun m => by first | (simp [entryFrame, mkF, argsToLocals, Value.category]; done) | rfl) ?_
  intro p e s m below meth c T0 hx hby hml hown hnm hret hlk hZ X0 e0
  have N0 := Fr.nil n0
  have KK0 : Keep h0 h0 [a1, b] := Keep.refl _ _
  refine o_aloadN X0 hx (hb hby d3_0) rfl rfl rfl ?_
  refine o_getF X0 hx hZ hown (host := "") (Or.inl (wd11 hw)) Via.refl e0 F_a1_sums (hb hby d3_1) rfl fun T1 X1 e1 => ?_
  refine o_aloadN X1 hx (hb hby d3_4) rfl rfl rfl ?_
  refine o_iloadN X1 hx (hb hby d3_5) rfl rfl ?_
  refine o_staticN X1 hx hZ hown (wd18 hw) (wd19 hw) (by decide) (rmadt1 l Z a0 hw b a2 k1 k2 p2 u0 w0 w1 s0 c0 c1 h0 n0 O0 A_b A_a2 nb neb2 (hs0) (hsb0) (hw0) (hwb0) (hw1) (hwb1)) (wd21 hw) (wd20 hw) e1 (by rw [hml]; rfl) (argsL := [(.ref b), (.ref a2), (.int p2)]) (rest := []) (W := 0) pd0 rfl rfl rfl rfl (hb hby d3_6) (by decide) (by decide) (by decide) (by decide) (cells' := 0) (slots' := 0) rfl rfl rfl fun v6 T6 h6 Lc6 X6 e6 hq6 => ?_
  obtain ⟨x0_6, rfl, N6q, K6, qA_6, hx0_6⟩ := hq6
  have N6 := Fr.app N0 N6q
  have KK6_h0 : Keep h0 h6 [a1, b] := KK0.trans K6 (allS (Or.inl (List.mem_of_getElem? (i := 1) rfl)) all0)
  have OK6 : Old Z n0 h6 := O0.keep K6 (allS nb all0)
  show Goes p.tables e below (Ends s (Qadd1 Z a1 b a2 k1 k2 p2 p3 cnt u0 w0 w1 s0 c0 c1 h0 n0) ({ frames := 1, cells := 0, slots := 0, locals := 17 } : Room).cells ({ frames := 1, cells := 0, slots := 0, locals := 17 } : Room).slots) (T6.setTop (mkF m 9 #[.val (.ref a1), .val (.ref a2), .val (.int p2), .val (.long p3), .second] []))
  refine o_aloadN X6 hx (hb hby d3_9) rfl rfl rfl ?_
  refine o_dup X6 hx (hb hby d3_10) rfl rfl ?_
  have fF11 : Fld Z h6 a1 "com/example/rillgraph/rillgraph/core/model/Aggregator$Change" "count" "J" (.long cnt) := (F_a1_count.keep K6 (ninS ne1b nin0))
  refine o_getF X6 hx hZ hown (host := "") (Or.inl (wd22 hw)) Via.refl e6 fF11 (hb hby d3_11) rfl fun T11 X11 e11 => ?_
  refine o_lloadN X11 hx (hb hby d3_14) rfl rfl ?_
  refine o_ladd X11 hx (hb hby d3_15) rfl ?_
  have fE16 : Exa Z h6 a1 "com/example/rillgraph/rillgraph/core/model/Aggregator$Change" := (E_a1.keep K6)
  refine o_putF X11 hx hZ hown (host := "") (Or.inl (wd22 hw)) Via.refl e11 fF11 fE16 (Or.inl (wd23 hw)) (wd3 hw) (ty := .long) (by decide) rfl rfl (hb hby d3_16) rfl fun T16 h16 X16 e16 W16 => ?_
  have F16 : Fld Z h16 a1 "com/example/rillgraph/rillgraph/core/model/Aggregator$Change" "count" "J" (.long (cnt + p3)) := fF11.same W16
  have N16 := Fr.snoc X16 N6 na1
  have KW16_h0 : Keep h0 h16 [a1, b] := KK6_h0.wr W16 (Or.inl (List.mem_of_getElem? (i := 0) rfl))
  have OW16 : Old Z n0 h16 := OK6.wr W16 na1
  have fE19 : Exa Z h16 a1 "com/example/rillgraph/rillgraph/core/model/Aggregator$Change" := (fE16.wr W16)
  have fF19 : Fld Z h16 a1 "com/example/rillgraph/rillgraph/core/model/Aggregator$Change" "sums" "[D" (.ref b) := ((F_a1_sums.keep K6 (ninS ne1b nin0)).other W16 (Or.inr (slot_ne (Z := Z) (a0 := a0) (Or.inr (wd12 hw)) (Or.inl (wd23 hw)) (by decide) (t := (.array .double)) (t' := .long) (by decide) (by decide))))
  have fA19 : Arv Z h16 b k1 .double (1 : Int32) [(.double x0_6)] (.double 0) := (qA_6.other W16 (Ne.symm ne1b))
  exact o_retV X16 hx hlk hret (hb hby d3_19) (by decide) (by decide) e16 ⟨x0_6, rfl, N16, KW16_h0, fE19, fF19, F16, fA19, hx0_6⟩
def Qchg1 (Z : State) (a1 : Addr) (b : Addr) (k1 : ClassId) (cnt : Int64) (u0 : UInt64) (s0 : Int) (h0 : Heap) (n0 : Nat) (v : Option Value) (h : Heap) (L : List Loc) : Prop := ∃ z : Int32, v = some (.int z) ∧ Fr n0 L ∧ h = h0 ∧ (z = 1 ∧ (¬ (cnt = (0 : Int64)) ∨ ¬ (s0 = 0)) ∨ z = 0 ∧ ¬ (¬ (cnt = (0 : Int64)) ∨ ¬ (s0 = 0)))
set_option maxRecDepth 65536 in
set_option maxHeartbeats 40000000 in
theorem rmchg1 (l : Launch) (Z : State) (a0 : Array Value) (hw : ∀ d ∈ tables_1, d.before a0 Z = true) (a1 : Addr) (b : Addr) (k1 : ClassId) (cnt : Int64) (u0 : UInt64) (s0 : Int) (h0 : Heap) (n0 : Nat) (O0 : Old Z n0 h0) (F_a1_sums : Fld Z h0 a1 "com/example/rillgraph/rillgraph/core/model/Aggregator$Change" "sums" "[D" (.ref b)) (F_a1_count : Fld Z h0 a1 "com/example/rillgraph/rillgraph/core/model/Aggregator$Change" "count" "J" (.long cnt)) (A_b : Arv Z h0 b k1 .double (1 : Int32) [(.double u0)] (.double 0)) (hs0 : Jvm.FP.Core.DInt s0 u0) (hsb0 : s0.natAbs ≤ 4290672328704) :
    Met l Z (⟨"com/example/rillgraph/rillgraph/core/model/Aggregator$Change", "changes", "()Z"⟩ : MethodName) prog_60_method_3_code 6 (some .boolean) ({ frames := 0, cells := 0, slots := 0, locals := 0 } : Room) [] #[(.ref a1)] h0 (Qchg1 Z a1 b k1 cnt u0 s0 h0 n0) := by
  refine met_of (L0 := #[.val (.ref a1), .unset, .unset, .unset, .unset, .unset]) (plainFor_of_name pn1) (fun m => by first | (simp [entryFrame, mkF, argsToLocals, Value.category]; done) | rfl) ?_
  intro p e s m below meth c T0 hx hby hml hown hnm hret hlk hZ X0 e0
  have N0 := Fr.nil n0
  refine o_aloadN X0 hx (hb hby d5_0) rfl rfl rfl ?_
  refine o_getF X0 hx hZ hown (host := "") (Or.inl (wd22 hw)) Via.refl e0 F_a1_count (hb hby d5_1) rfl fun T1 X1 e1 => ?_
  refine o_lconst X1 hx (hb hby d5_4) (v := (0 : Int64)) rfl rfl ?_
  refine o_lcmp X1 hx (hb hby d5_5) rfl ?_
  by_cases hc6 : cnt = (0 : Int64)
  ·
    refine o_ifYes X1 hx (hb hby d5_6) ((if0 _ _).trans (teq ((lw_eq _ _).mpr hc6)).1) (by decide) (pc' := 11) (by decide) ?_
    refine o_aloadN X1 hx (hb hby d5_11) rfl rfl rfl ?_
    refine o_getF X1 hx hZ hown (host := "") (Or.inl (wd11 hw)) Via.refl e1 F_a1_sums (hb hby d5_12) rfl fun T12 X12 e12 => ?_
    refine o_astoreN X12 hx (hb hby d5_15) rfl (L' := #[.val (.ref a1), .val (.ref b), .unset, .unset, .unset, .unset]) rfl rfl ?_
    refine o_aloadN X12 hx (hb hby d5_16) rfl rfl rfl ?_
    refine o_alen X12 hx hZ e12 A_b (hb hby d5_17) rfl ?_
    refine o_istoreN X12 hx (hb hby d5_18) (L' := #[.val (.ref a1), .val (.ref b), .val (.int (1 : Int32)), .unset, .unset, .unset]) rfl rfl ?_
    refine o_iconst X12 hx (hb hby d5_19) (v := (0 : Int32)) rfl rfl ?_
    refine o_istoreN X12 hx (hb hby d5_20) (L' := #[.val (.ref a1), .val (.ref b), .val (.int (1 : Int32)), .val (.int (0 : Int32)), .unset, .unset]) rfl rfl ?_
    refine o_iloadN X12 hx (hb hby d5_21) rfl rfl ?_
    refine o_iloadN X12 hx (hb hby d5_22) rfl rfl ?_
    refine o_icmpNo X12 hx (hb hby d5_23) (tlt (by decide)).2.1 rfl ?_
    refine o_aloadN X12 hx (hb hby d5_26) rfl rfl rfl ?_
    refine o_iloadN X12 hx (hb hby d5_27) rfl rfl ?_
    refine o_daload X12 hx hZ e12 A_b ⟨by decide, by decide⟩ (v := (.double u0)) rfl (hb hby d5_28) rfl ?_
    refine o_dstore X12 hx (hb hby d5_29) (L' := #[.val (.ref a1), .val (.ref b), .val (.int (1 : Int32)), .val (.int (0 : Int32)), .val (.double u0), .second]) rfl rfl ?_
    refine o_dload X12 hx (hb hby d5_31) rfl rfl ?_
    refine o_dconst0I X12 hx (hb hby d5_33) rfl fun d33 hd33 => ?_
    have hm33 : (0 : Int).natAbs ≤ 0 := by decide
    refine o_dcmpI X12 hx (hb hby d5_34) hs0 hd33 rfl ?_
    by_cases hc35 : s0 = 0
    ·
      refine o_ifYes X12 hx (hb hby d5_35) ((if0 _ _).trans (teq ((oc_eq _ _).mpr hc35)).1) (by decide) (pc' := 40) (by decide) ?_
      refine o_iinc X12 hx (hb hby d5_40) rfl (v := (1 : Int32)) rfl (L' := #[.val (.ref a1), .val (.ref b), .val (.int (1 : Int32)), .val (.int (1 : Int32)), .val (.double u0), .second]) rfl rfl ?_
      refine o_goto X12 hx (hb hby d5_43) (by decide) (pc' := 21) (by decide) ?_
      refine o_iloadN X12 hx (hb hby d5_21) rfl rfl ?_
      refine o_iloadN X12 hx (hb hby d5_22) rfl rfl ?_
      refine o_icmpYes X12 hx (hb hby d5_23) (flt (by decide)).2.1 (by decide) (pc' := 46) (by decide) ?_
      refine o_iconst X12 hx (hb hby d5_46) (v := (0 : Int32)) rfl rfl ?_
      exact o_ret X12 hx hlk (t := .boolean) hret rfl (Or.inl ⟨rfl, by decide, _, rfl⟩) (hb hby d5_47) (by decide) (by decide) e12 ⟨(0 : Int32), rfl, N0, rfl, (Or.inr ⟨rfl, fun q => q.elim (fun h => h hc6) (fun h => h hc35)⟩)⟩
    ·
      refine o_ifNo X12 hx (hb hby d5_35) ((if0 _ _).trans (feq (fun q => hc35 ((oc_eq _ _).mp q))).1) rfl ?_
      refine o_iconst X12 hx (hb hby d5_38) (v := (1 : Int32)) rfl rfl ?_
      exact o_ret X12 hx hlk (t := .boolean) hret rfl (Or.inl ⟨rfl, by decide, _, rfl⟩) (hb hby d5_39) (by decide) (by decide) e12 ⟨(1 : Int32), rfl, N0, rfl, (Or.inl ⟨rfl, Or.inr (hc35)⟩)⟩
  ·
    refine o_ifNo X1 hx (hb hby d5_6) ((if0 _ _).trans (feq (fun q => hc6 ((lw_eq _ _).mp q))).1) rfl ?_
    refine o_iconst X1 hx (hb hby d5_9) (v := (1 : Int32)) rfl rfl ?_
    exact o_ret X1 hx hlk (t := .boolean) hret rfl (Or.inl ⟨rfl, by decide, _, rfl⟩) (hb hby d5_10) (by decide) (by decide) e1 ⟨(1 : Int32), rfl, N0, rfl, (Or.inl ⟨rfl, Or.inl (hc6)⟩)⟩
def Qini2 (Z : State) (a1 : Addr) (h0 : Heap) (n0 : Nat) (v : Option Value) (h : Heap) (L : List Loc) : Prop := ∃ b : Addr, ∃ k : ClassId, v = none ∧ Fr n0 L ∧ Keep h0 h [a1] ∧ Exa Z h a1 "com/example/rillgraph/rillgraph/core/model/Aggregator$Change" ∧ (h0.size ≤ b) ∧ Fld Z h a1 "com/example/rillgraph/rillgraph/core/model/Aggregator$Change" "sums" "[D" (.ref b) ∧ Fld Z h a1 "com/example/rillgraph/rillgraph/core/model/Aggregator$Change" "count" "J" (.long (0 : Int64)) ∧ Arv Z h b k .double (2 : Int32) [(.double 0), (.double 0)] (.double 0)
set_option maxRecDepth 65536 in
set_option maxHeartbeats 40000000 in
theorem rmini2 (l : Launch) (Z : State) (a0 : Array Value) (hw : ∀ d ∈ tables_1, d.before a0 Z = true) (a1 : Addr) (h0 : Heap) (n0 : Nat) (O0 : Old Z n0 h0) (E_a1 : Exa Z h0 a1 "com/example/rillgraph/rillgraph/core/model/Aggregator$Change") (F_a1_sums : Fld Z h0 a1 "com/example/rillgraph/rillgraph/core/model/Aggregator$Change" "sums" "[D" .null) (F_a1_count : Fld Z h0 a1 "com/example/rillgraph/rillgraph/core/model/Aggregator$Change" "count" "J" (.long (0 : Int64))) (na1 : n0 ≤ a1) :
    Met l Z (⟨"com/example/rillgraph/rillgraph/core/model/Aggregator$Change", "<init>", "(I)V"⟩ : MethodName) prog_60_method_1_code 2 none ({ frames := 1, cells := 1, slots := 2, locals := 12 } : Room) [] #[(.ref a1), (.int (2 : Int32))] h0 (Qini2 Z a1 h0 n0) := by
  refine met_of (L0 := #[.val (.ref a1), .val (.int (2 : Int32))]) (plainFor_of_name pn1) (fun m => by first | (simp [entryFrame, mkF, argsToLocals, Value.category]; done) | rfl) ?_
  intro p e s m below meth c T0 hx hby hml hown hnm hret hlk hZ X0 e0
  have N0 := Fr.nil n0
  have KK0 : Keep h0 h0 [a1] := Keep.refl _ _
  refine o_aloadN X0 hx (hb hby d1_0) rfl rfl rfl ?_
  refine o_initO X0 hx hZ hown (wd8 hw) (wd9 hw) (wd10 hw) e0 (by rw [hml]; rfl) (hb hby d1_1) (by decide) (W := 0) rfl (by decide) rfl fun T1 X1 e1 => ?_
  refine o_aloadN X1 hx (hb hby d1_4) rfl rfl rfl ?_
  refine o_iloadN X1 hx (hb hby d1_5) rfl rfl ?_
  refine o_newP (aty := .double) X1 hx hZ (wd1 hw) e1 (hb hby d1_6) (by decide) (cap := 2) (by decide) (by decide) (by decide) (by decide) (cells' := 1) (slots' := 2) rfl rfl rfl fun T6 h6 k6 b6 g6 X6 e6 E6 A6 => ?_
  have s_b6_h0 : h0.size ≤ b6 := Nat.le_trans KK0.1 (Nat.le_of_eq g6.symm)
  have n_b6 : n0 ≤ b6 := Nat.le_trans (O0.1 ▸ O0.2.1) (Nat.le_of_eq g6.symm)
  have KE6_h0 : Keep h0 h6 [a1] := KK0.ext E6
  have OE6 : Old Z n0 h6 := O0.ext E6
  have A_b6 : Arv Z h6 b6 k6 .double (2 : Int32) [(.double 0), (.double 0)] (.double 0) := (Arv.new A6 (by decide)).pad (pad_rep [] (.double 0) 2)
  have fF8 : Fld Z h6 a1 "com/example/rillgraph/rillgraph/core/model/Aggregator$Change" "sums" "[D" .null := (F_a1_sums.ext E6)
  have fE8 : Exa Z h6 a1 "com/example/rillgraph/rillgraph/core/model/Aggregator$Change" := (E_a1.ext E6)
  refine o_putF X6 hx hZ hown (host := "") (Or.inl (wd11 hw)) Via.refl e6 fF8 fE8 (Or.inr ⟨(wd12 hw), rfl, hnm⟩) (wd3 hw) (ty := (.array .double)) (by decide) rfl rfl (hb hby d1_8) rfl fun T8 h8 X8 e8 W8 => ?_
  have F8 : Fld Z h8 a1 "com/example/rillgraph/rillgraph/core/model/Aggregator$Change" "sums" "[D" (.ref b6) := fF8.same W8
  have N8 := Fr.snoc X8 N0 na1
  have KW8_h0 : Keep h0 h8 [a1] := KE6_h0.wr W8 (Or.inl (List.mem_of_getElem? (i := 0) rfl))
  have OW8 : Old Z n0 h8 := OE6.wr W8 na1
  have fE11 : Exa Z h8 a1 "com/example/rillgraph/rillgraph/core/model/Aggregator$Change" := (fE8.wr W8)
  have fF11 : Fld Z h8 a1 "com/example/rillgraph/rillgraph/core/model/Aggregator$Change" "count" "J" (.long (0 : Int64)) := ((F_a1_count.ext E6).other W8 (Or.inr (slot_ne (Z := Z) (a0 := a0) (Or.inl (wd23 hw)) (Or.inr (wd12 hw)) (by decide) (t := .long) (t' := (.array .double)) (by decide) (by decide))))
  have fA11 : Arv Z h8 b6 k6 .double (2 : Int32) [(.double 0), (.double 0)] (.double 0) := (A_b6.other W8 (Ne.symm (Nat.ne_of_lt (Nat.lt_of_lt_of_le E_a1.lt (Nat.le_of_eq g6.symm)))))
  exact o_retV X8 hx hlk hret (hb hby d1_11) (by decide) (by decide) e8 ⟨b6, k6, rfl, N8, KW8_h0, fE11, s_b6_h0, F8, fF11, fA11⟩
def Qadt2 (Z : State) (a1 : Addr) (a2 : Addr) (k1 : ClassId) (k2 : ClassId) (p2 : Int32) (u0 : UInt64) (u1 : UInt64) (w0 : UInt64) (w1 : UInt64) (s0 : Int) (s1 : Int) (c0 : Int) (c1 : Int) (h0 : Heap) (n0 : Nat) (v : Option Value) (h : Heap) (L : List Loc) : Prop := ∃ x0 : UInt64, ∃ x1 : UInt64, v = none ∧ Fr n0 L ∧ Keep h0 h [a1] ∧ Arv Z h a1 k1 .double (2 : Int32) [(.double x0), (.double x1)] (.double 0) ∧ (Jvm.FP.Core.DInt (s0 + (p2.toInt * c0)) x0) ∧ (Jvm.FP.Core.DInt (s1 + (p2.toInt * c1)) x1)
set_option maxRecDepth 65536 in
set_option maxHeartbeats 40000000 in
theorem rmadt2 (l : Launch) (Z : State) (a0 : Array Value) (hw : ∀ d ∈ tables_1, d.before a0 Z = true) (a1 : Addr) (a2 : Addr) (k1 : ClassId) (k2 : ClassId) (p2 : Int32) (u0 : UInt64) (u1 : UInt64) (w0 : UInt64) (w1 : UInt64) (s0 : Int) (s1 : Int) (c0 : Int) (c1 : Int) (h0 : Heap) (n0 : Nat) (O0 : Old Z n0 h0) (A_a1 : Arv Z h0 a1 k1 .double (2 : Int32) [(.double u0), (.double u1)] (.double 0)) (A_a2 : Arv Z h0 a2 k2 .double (2 : Int32) [(.double w0), (.double w1)] (.double 0)) (na1 : n0 ≤ a1) (ne12 : a1 ≠ a2) (hs0 : Jvm.FP.Core.DInt s0 u0) (hsb0 : s0.natAbs ≤ 4290672328704) (hs1 : Jvm.FP.Core.DInt s1 u1) (hsb1 : s1.natAbs ≤ 4290672328704) (hw0 : Jvm.FP.Core.DInt c0 w0) (hwb0 : c0.natAbs ≤ 999) (hw1 : Jvm.FP.Core.DInt c1 w1) (hwb1 : c1.natAbs ≤ 999) :
    Met l Z (⟨"com/example/rillgraph/rillgraph/core/model/Aggregator", "addTimes", "([D[DI)V"⟩ : MethodName) prog_59_method_6_code 6 none ({ frames := 0, cells := 0, slots := 0, locals := 0 } : Room) [] #[(.ref a1), (.ref a2), (.int p2)] h0 (Qadt2 Z a1 a2 k1 k2 p2 u0 u1 w0 w1 s0 s1 c0 c1 h0 n0) := by
  refine met_of (L0 := #[.val (.ref a1), .val (.ref a2), .val (.int p2), .unset, .unset, .unset]) (plainFor_of_name pn2) (fun m => by first | (simp [entryFrame, mkF, argsToLocals, Value.category]; done) | rfl) ?_
  intro p e s m below meth c T0 hx hby hml hown hnm hret hlk hZ X0 e0
  have N0 := Fr.nil n0
  have KK0 : Keep h0 h0 [a1] := Keep.refl _ _
  refine o_iloadN X0 hx (hb hby d4_0) rfl rfl ?_
  have hm1 : p2.toInt.natAbs ≤ 2147483648 := own_i32b _
  refine o_i2dI X0 hx (hb hby d4_1) rfl fun d1 hd1 => ?_
  refine o_dstoreN X0 hx (hb hby d4_2) (L' := #[.val (.ref a1), .val (.ref a2), .val (.int p2), .val (.double d1), .second, .unset]) rfl rfl ?_
  refine o_iconst X0 hx (hb hby d4_3) (v := (0 : Int32)) rfl rfl ?_
  refine o_istore X0 hx (hb hby d4_4) (L' := #[.val (.ref a1), .val (.ref a2), .val (.int p2), .val (.double d1), .second, .val (.int (0 : Int32))]) rfl rfl ?_
  refine o_iload X0 hx (hb hby d4_6) rfl rfl ?_
  refine o_aloadN X0 hx (hb hby d4_8) rfl rfl rfl ?_
  refine o_alen X0 hx hZ e0 A_a1 (hb hby d4_9) rfl ?_
  refine o_icmpNo X0 hx (hb hby d4_10) (tlt (by decide)).2.1 rfl ?_
  refine o_aloadN X0 hx (hb hby d4_13) rfl rfl rfl ?_
  refine o_iload X0 hx (hb hby d4_14) rfl rfl ?_
  refine o_dup2 X0 hx (hb hby d4_16) rfl rfl rfl ?_
  refine o_daload X0 hx hZ e0 A_a1 ⟨by decide, by decide⟩ (v := (.double u0)) rfl (hb hby d4_17) rfl ?_
  refine o_dloadN X0 hx (hb hby d4_18) rfl rfl ?_
  refine o_aloadN X0 hx (hb hby d4_19) rfl rfl rfl ?_
  refine o_iload X0 hx (hb hby d4_20) rfl rfl ?_
  refine o_daload X0 hx hZ e0 A_a2 ⟨by decide, by decide⟩ (v := (.double w0)) rfl (hb hby d4_22) rfl ?_
  have hm23 : (p2.toInt * c0).natAbs ≤ 2145336164352 := own_mulb hm1 hwb0 rfl
  refine o_dmulI X0 hx (hb hby d4_23) hd1 hw0 (k := (p2.toInt * c0)) rfl (Nat.le_trans hm23 (by decide)) rfl fun d23 hd23 => ?_
  have hm24 : (s0 + (p2.toInt * c0)).natAbs ≤ 6436008493056 := own_addb hsb0 hm23 rfl
  refine o_daddI X0 hx (hb hby d4_24) hs0 hd23 (k := (s0 + (p2.toInt * c0))) rfl (Nat.le_trans hm24 (by decide)) rfl fun d24 hd24 => ?_
  refine o_stD X0 hx hZ e0 A_a1 (i := 0) ⟨by decide, by decide⟩ (by decide) (Nat.le_of_ble_eq_true rfl) (hb hby d4_25) rfl fun T25 h25 X25 e25 W25 (A25 : Arv Z h25 a1 k1 .double (2 : Int32) [(.double d24), (.double u1)] (.double 0)) => ?_
  have N25 := Fr.snoc X25 N0 na1
  have KW25_h0 : Keep h0 h25 [a1] := KK0.wr W25 (Or.inl (List.mem_of_getElem? (i := 0) rfl))
  have OW25 : Old Z n0 h25 := O0.wr W25 na1
  refine o_iinc X25 hx (hb hby d4_26) rfl (v := (1 : Int32)) rfl (L' := #[.val (.ref a1), .val (.ref a2), .val (.int p2), .val (.double d1), .second, .val (.int (1 : Int32))]) rfl rfl ?_
  refine o_goto X25 hx (hb hby d4_29) (by decide) (pc' := 6) (by decide) ?_
  refine o_iload X25 hx (hb hby d4_6) rfl rfl ?_
  refine o_aloadN X25 hx (hb hby d4_8) rfl rfl rfl ?_
  refine o_alen X25 hx hZ e25 A25 (hb hby d4_9) rfl ?_
  refine o_icmpNo X25 hx (hb hby d4_10) (tlt (by decide)).2.1 rfl ?_
  refine o_aloadN X25 hx (hb hby d4_13) rfl rfl rfl ?_
  refine o_iload X25 hx (hb hby d4_14) rfl rfl ?_
  refine o_dup2 X25 hx (hb hby d4_16) rfl rfl rfl ?_
  refine o_daload X25 hx hZ e25 A25 ⟨by decide, by decide⟩ (v := (.double u1)) rfl (hb hby d4_17) rfl ?_
  refine o_dloadN X25 hx (hb hby d4_18) rfl rfl ?_
  refine o_aloadN X25 hx (hb hby d4_19) rfl rfl rfl ?_
  refine o_iload X25 hx (hb hby d4_20) rfl rfl ?_
  have fA22 : Arv Z h25 a2 k2 .double (2 : Int32) [(.double w0), (.double w1)] (.double 0) := (A_a2.other W25 (Ne.symm ne12))
  refine o_daload X25 hx hZ e25 fA22 ⟨by decide, by decide⟩ (v := (.double w1)) rfl (hb hby d4_22) rfl ?_
  have hm23_2 : (p2.toInt * c1).natAbs ≤ 2145336164352 := own_mulb hm1 hwb1 rfl
  refine o_dmulI X25 hx (hb hby d4_23) hd1 hw1 (k := (p2.toInt * c1)) rfl (Nat.le_trans hm23_2 (by decide)) rfl fun d23_2 hd23_2 => ?_
  have hm24_2 : (s1 + (p2.toInt * c1)).natAbs ≤ 6436008493056 := own_addb hsb1 hm23_2 rfl
  refine o_daddI X25 hx (hb hby d4_24) hs1 hd23_2 (k := (s1 + (p2.toInt * c1))) rfl (Nat.le_trans hm24_2 (by decide)) rfl fun d24_2 hd24_2 => ?_
  refine o_stD X25 hx hZ e25 A25 (i := 1) ⟨by decide, by decide⟩ (by decide) (Nat.le_of_ble_eq_true rfl) (hb hby d4_25) rfl fun T25_2 h25_2 X25_2 e25_2 W25_2 (A25_2 : Arv Z h25_2 a1 k1 .double (2 : Int32) [(.double d24), (.double d24_2)] (.double 0)) => ?_
  have N25_2 := Fr.snoc X25_2 N25 na1
  have KW25_2_h0 : Keep h0 h25_2 [a1] := KW25_h0.wr W25_2 (Or.inl (List.mem_of_getElem? (i := 0) rfl))
  have OW25_2 : Old Z n0 h25_2 := OW25.wr W25_2 na1
  refine o_iinc X25_2 hx (hb hby d4_26) rfl (v := (2 : Int32)) rfl (L' := #[.val (.ref a1), .val (.ref a2), .val (.int p2), .val (.double d1), .second, .val (.int (2 : Int32))]) rfl rfl ?_
  refine o_goto X25_2 hx (hb hby d4_29) (by decide) (pc' := 6) (by decide) ?_
  refine o_iload X25_2 hx (hb hby d4_6) rfl rfl ?_
  refine o_aloadN X25_2 hx (hb hby d4_8) rfl rfl rfl ?_
  refine o_alen X25_2 hx hZ e25_2 A25_2 (hb hby d4_9) rfl ?_
  refine o_icmpYes X25_2 hx (hb hby d4_10) (flt (by decide)).2.1 (by decide) (pc' := 32) (by decide) ?_
  exact o_retV X25_2 hx hlk hret (hb hby d4_32) (by decide) (by decide) e25_2 ⟨d24, d24_2, rfl, N25_2, KW25_2_h0, A25_2, hd24, hd24_2⟩
def Qadd2 (Z : State) (a1 : Addr) (b : Addr) (a2 : Addr) (k1 : ClassId) (k2 : ClassId) (p2 : Int32) (p3 : Int64) (cnt : Int64) (u0 : UInt64) (u1 : UInt64) (w0 : UInt64) (w1 : UInt64) (s0 : Int) (s1 : Int) (c0 : Int) (c1 : Int) (h0 : Heap) (n0 : Nat) (v : Option Value) (h : Heap) (L : List Loc) : Prop := ∃ x0 : UInt64, ∃ x1 : UInt64, v = none ∧ Fr n0 L ∧ Keep h0 h [a1, b] ∧ Exa Z h a1 "com/example/rillgraph/rillgraph/core/model/Aggregator$Change" ∧ Fld Z h a1 "com/example/rillgraph/rillgraph/core/model/Aggregator$Change" "sums" "[D" (.ref b) ∧ Fld Z h a1 "com/example/rillgraph/rillgraph/core/model/Aggregator$Change" "count" "J" (.long (cnt + p3)) ∧ Arv Z h b k1 .double (2 : Int32) [(.double x0), (.double x1)] (.double 0) ∧ (Jvm.FP.Core.DInt (s0 + (p2.toInt * c0)) x0) ∧ (Jvm.FP.Core.DInt (s1 + (p2.toInt * c1)) x1)
set_option maxRecDepth 65536 in
set_option maxHeartbeats 40000000 in
theorem rmadd2 (l : Launch) (Z : State) (a0 : Array Value) (hw : ∀ d ∈ tables_1, d.before a0 Z = true) (a1 : Addr) (b : Addr) (a2 : Addr) (k1 : ClassId) (k2 : ClassId) (p2 : Int32) (p3 : Int64) (cnt : Int64) (u0 : UInt64) (u1 : UInt64) (w0 : UInt64) (w1 : UInt64) (s0 : Int) (s1 : Int) (c0 : Int) (c1 : Int) (h0 : Heap) (n0 : Nat) (O0 : Old Z n0 h0) (E_a1 : Exa Z h0 a1 "com/example/rillgraph/rillgraph/core/model/Aggregator$Change") (F_a1_sums : Fld Z h0 a1 "com/example/rillgraph/rillgraph/core/model/Aggregator$Change" "sums" "[D" (.ref b)) (F_a1_count : Fld Z h0 a1 "com/example/rillgraph/rillgraph/core/model/Aggregator$Change" "count" "J" (.long cnt)) (A_b : Arv Z h0 b k1 .double (2 : Int32) [(.double u0), (.double u1)] (.double 0)) (A_a2 : Arv Z h0 a2 k2 .double (2 : Int32) [(.double w0), (.double w1)] (.double 0)) (na1 : n0 ≤ a1) (nb : n0 ≤ b) (neb2 : b ≠ a2) (ne1b : a1 ≠ b) (ne12 : a1 ≠ a2) (hs0 : Jvm.FP.Core.DInt s0 u0) (hsb0 : s0.natAbs ≤ 4290672328704) (hs1 : Jvm.FP.Core.DInt s1 u1) (hsb1 : s1.natAbs ≤ 4290672328704) (hw0 : Jvm.FP.Core.DInt c0 w0) (hwb0 : c0.natAbs ≤ 999) (hw1 : Jvm.FP.Core.DInt c1 w1) (hwb1 : c1.natAbs ≤ 999) :
    Met l Z (⟨"com/example/rillgraph/rillgraph/core/model/Aggregator$Change", "add", "([DIJ)V"⟩ : MethodName) prog_60_method_2_code 5 none ({ frames := 1, cells := 0, slots := 0, locals := 17 } : Room) [] #[(.ref a1), (.ref a2), (.int p2), (.long p3)] h0 (Qadd2 Z a1 b a2 k1 k2 p2 p3 cnt u0 u1 w0 w1 s0 s1 c0 c1 h0 n0) := by
  refine met_of (L0 := #[.val (.ref a1), .val (.ref a2), .val (.int p2), .val (.long p3), .second]) (plainFor_of_name pn1) (fun m => by first | (simp [entryFrame, mkF, argsToLocals, Value.category]; done) | rfl) ?_
  intro p e s m below meth c T0 hx hby hml hown hnm hret hlk hZ X0 e0
  have N0 := Fr.nil n0
  have KK0 : Keep h0 h0 [a1, b] := Keep.refl _ _
  refine o_aloadN X0 hx (hb hby d3_0) rfl rfl rfl ?_
  refine o_getF X0 hx hZ hown (host := "") (Or.inl (wd11 hw)) Via.refl e0 F_a1_sums (hb hby d3_1) rfl fun T1 X1 e1 => ?_
  refine o_aloadN X1 hx (hb hby d3_4) rfl rfl rfl ?_
  refine o_iloadN X1 hx (hb hby d3_5) rfl rfl ?_
  refine o_staticN X1 hx hZ hown (wd18 hw) (wd19 hw) (by decide) (rmadt2 l Z a0 hw b a2 k1 k2 p2 u0 u1 w0 w1 s0 s1 c0 c1 h0 n0 O0 A_b A_a2 nb neb2 (hs0) (hsb0) (hs1) (hsb1) (hw0) (hwb0) (hw1) (hwb1)) (wd21 hw) (wd20 hw) e1 (by rw [hml]; rfl) (argsL := [(.ref b), (.ref a2), (.int p2)]) (rest := []) (W := 0) pd0 rfl rfl rfl rfl (hb hby d3_6) (by decide) (by decide) (by decide) (by decide) (cells' := 0) (slots' := 0) rfl rfl rfl fun v6 T6 h6 Lc6 X6 e6 hq6 => ?_
  obtain ⟨x0_6, x1_6, rfl, N6q, K6, qA_6, hx0_6, hx1_6⟩ := hq6
  have N6 := Fr.app N0 N6q
  have KK6_h0 : Keep h0 h6 [a1, b] := KK0.trans K6 (allS (Or.inl (List.mem_of_getElem? (i := 1) rfl)) all0)
  have OK6 : Old Z n0 h6 := O0.keep K6 (allS nb all0)
  show Goes p.tables e below (Ends s (Qadd2 Z a1 b a2 k1 k2 p2 p3 cnt u0 u1 w0 w1 s0 s1 c0 c1 h0 n0) ({ frames := 1, cells := 0, slots := 0, locals := 17 } : Room).cells ({ frames := 1, cells := 0, slots := 0, locals := 17 } : Room).slots) (T6.setTop (mkF m 9 #[.val (.ref a1), .val (.ref a2), .val (.int p2), .val (.long p3), .second] []))
  refine o_aloadN X6 hx (hb hby d3_9) rfl rfl rfl ?_
  refine o_dup X6 hx (hb hby d3_10) rfl rfl ?_
  have fF11 : Fld Z h6 a1 "com/example/rillgraph/rillgraph/core/model/Aggregator$Change" "count" "J" (.long cnt) := (F_a1_count.keep K6 (ninS ne1b nin0))
  refine o_getF X6 hx hZ hown (host := "") (Or.inl (wd22 hw)) Via.refl e6 fF11 (hb hby d3_11) rfl fun T11 X11 e11 => ?_
  refine o_lloadN X11 hx (hb hby d3_14) rfl rfl ?_
  refine o_ladd X11 hx (hb hby d3_15) rfl ?_
  have fE16 : Exa Z h6 a1 "com/example/rillgraph/rillgraph/core/model/Aggregator$Change" := (E_a1.keep K6)
  refine o_putF X11 hx hZ hown (host := "") (Or.inl (wd22 hw)) Via.refl e11 fF11 fE16 (Or.inl (wd23 hw)) (wd3 hw) (ty := .long) (by decide) rfl rfl (hb hby d3_16) rfl fun T16 h16 X16 e16 W16 => ?_
  have F16 : Fld Z h16 a1 "com/example/rillgraph/rillgraph/core/model/Aggregator$Change" "count" "J" (.long (cnt + p3)) := fF11.same W16
  have N16 := Fr.snoc X16 N6 na1
  have KW16_h0 : Keep h0 h16 [a1, b] := KK6_h0.wr W16 (Or.inl (List.mem_of_getElem? (i := 0) rfl))
  have OW16 : Old Z n0 h16 := OK6.wr W16 na1
  have fE19 : Exa Z h16 a1 "com/example/rillgraph/rillgraph/core/model/Aggregator$Change" := (fE16.wr W16)
  have fF19 : Fld Z h16 a1 "com/example/rillgraph/rillgraph/core/model/Aggregator$Change" "sums" "[D" (.ref b) := ((F_a1_sums.keep K6 (ninS ne1b nin0)).other W16 (Or.inr (slot_ne (Z := Z) (a0 := a0) (Or.inr (wd12 hw)) (Or.inl (wd23 hw)) (by decide) (t := (.array .double)) (t' := .long) (by decide) (by decide))))
  have fA19 : Arv Z h16 b k1 .double (2 : Int32) [(.double x0_6), (.double x1_6)] (.double 0) := (qA_6.other W16 (Ne.symm ne1b))
  exact o_retV X16 hx hlk hret (hb hby d3_19) (by decide) (by decide) e16 ⟨x0_6, x1_6, rfl, N16, KW16_h0, fE19, fF19, F16, fA19, hx0_6, hx1_6⟩
def Qchg2 (Z : State) (a1 : Addr) (b : Addr) (k1 : ClassId) (cnt : Int64) (u0 : UInt64) (u1 : UInt64) (s0 : Int) (s1 : Int) (h0 : Heap) (n0 : Nat) (v : Option Value) (h : Heap) (L : List Loc) : Prop := ∃ z : Int32, v = some (.int z) ∧ Fr n0 L ∧ h = h0 ∧ (z = 1 ∧ (¬ (cnt = (0 : Int64)) ∨ ¬ (s0 = 0) ∨ ¬ (s1 = 0)) ∨ z = 0 ∧ ¬ (¬ (cnt = (0 : Int64)) ∨ ¬ (s0 = 0) ∨ ¬ (s1 = 0)))
set_option maxRecDepth 65536 in
set_option maxHeartbeats 40000000 in
theorem rmchg2 (l : Launch) (Z : State) (a0 : Array Value) (hw : ∀ d ∈ tables_1, d.before a0 Z = true) (a1 : Addr) (b : Addr) (k1 : ClassId) (cnt : Int64) (u0 : UInt64) (u1 : UInt64) (s0 : Int) (s1 : Int) (h0 : Heap) (n0 : Nat) (O0 : Old Z n0 h0) (F_a1_sums : Fld Z h0 a1 "com/example/rillgraph/rillgraph/core/model/Aggregator$Change" "sums" "[D" (.ref b)) (F_a1_count : Fld Z h0 a1 "com/example/rillgraph/rillgraph/core/model/Aggregator$Change" "count" "J" (.long cnt)) (A_b : Arv Z h0 b k1 .double (2 : Int32) [(.double u0), (.double u1)] (.double 0)) (hs0 : Jvm.FP.Core.DInt s0 u0) (hsb0 : s0.natAbs ≤ 4290672328704) (hs1 : Jvm.FP.Core.DInt s1 u1) (hsb1 : s1.natAbs ≤ 4290672328704) :
    Met l Z (⟨"com/example/rillgraph/rillgraph/core/model/Aggregator$Change", "changes", "()Z"⟩ : MethodName) prog_60_method_3_code 6 (some .boolean) ({ frames := 0, cells := 0, slots := 0, locals := 0 } : Room) [] #[(.ref a1)] h0 (Qchg2 Z a1 b k1 cnt u0 u1 s0 s1 h0 n0) := by
  refine met_of (L0 := #[.val (.ref a1), .unset, .unset, .unset, .unset, .unset]) (plainFor_of_name pn1) (fun m => by first | (simp [entryFrame, mkF, argsToLocals, Value.category]; done) | rfl) ?_
  intro p e s m below meth c T0 hx hby hml hown hnm hret hlk hZ X0 e0
  have N0 := Fr.nil n0
  refine o_aloadN X0 hx (hb hby d5_0) rfl rfl rfl ?_
  refine o_getF X0 hx hZ hown (host := "") (Or.inl (wd22 hw)) Via.refl e0 F_a1_count (hb hby d5_1) rfl fun T1 X1 e1 => ?_
  refine o_lconst X1 hx (hb hby d5_4) (v := (0 : Int64)) rfl rfl ?_
  refine o_lcmp X1 hx (hb hby d5_5) rfl ?_
  by_cases hc6 : cnt = (0 : Int64)
  ·
    refine o_ifYes X1 hx (hb hby d5_6) ((if0 _ _).trans (teq ((lw_eq _ _).mpr hc6)).1) (by decide) (pc' := 11) (by decide) ?_
    refine o_aloadN X1 hx (hb hby d5_11) rfl rfl rfl ?_
    refine o_getF X1 hx hZ hown (host := "") (Or.inl (wd11 hw)) Via.refl e1 F_a1_sums (hb hby d5_12) rfl fun T12 X12 e12 => ?_
    refine o_astoreN X12 hx (hb hby d5_15) rfl (L' := #[.val (.ref a1), .val (.ref b), .unset, .unset, .unset, .unset]) rfl rfl ?_
    refine o_aloadN X12 hx (hb hby d5_16) rfl rfl rfl ?_
    refine o_alen X12 hx hZ e12 A_b (hb hby d5_17) rfl ?_
    refine o_istoreN X12 hx (hb hby d5_18) (L' := #[.val (.ref a1), .val (.ref b), .val (.int (2 : Int32)), .unset, .unset, .unset]) rfl rfl ?_
    refine o_iconst X12 hx (hb hby d5_19) (v := (0 : Int32)) rfl rfl ?_
    refine o_istoreN X12 hx (hb hby d5_20) (L' := #[.val (.ref a1), .val (.ref b), .val (.int (2 : Int32)), .val (.int (0 : Int32)), .unset, .unset]) rfl rfl ?_
    refine o_iloadN X12 hx (hb hby d5_21) rfl rfl ?_
    refine o_iloadN X12 hx (hb hby d5_22) rfl rfl ?_
    refine o_icmpNo X12 hx (hb hby d5_23) (tlt (by decide)).2.1 rfl ?_
    refine o_aloadN X12 hx (hb hby d5_26) rfl rfl rfl ?_
    refine o_iloadN X12 hx (hb hby d5_27) rfl rfl ?_
    refine o_daload X12 hx hZ e12 A_b ⟨by decide, by decide⟩ (v := (.double u0)) rfl (hb hby d5_28) rfl ?_
    refine o_dstore X12 hx (hb hby d5_29) (L' := #[.val (.ref a1), .val (.ref b), .val (.int (2 : Int32)), .val (.int (0 : Int32)), .val (.double u0), .second]) rfl rfl ?_
    refine o_dload X12 hx (hb hby d5_31) rfl rfl ?_
    refine o_dconst0I X12 hx (hb hby d5_33) rfl fun d33 hd33 => ?_
    have hm33 : (0 : Int).natAbs ≤ 0 := by decide
    refine o_dcmpI X12 hx (hb hby d5_34) hs0 hd33 rfl ?_
    by_cases hc35 : s0 = 0
    ·
      refine o_ifYes X12 hx (hb hby d5_35) ((if0 _ _).trans (teq ((oc_eq _ _).mpr hc35)).1) (by decide) (pc' := 40) (by decide) ?_
      refine o_iinc X12 hx (hb hby d5_40) rfl (v := (1 : Int32)) rfl (L' := #[.val (.ref a1), .val (.ref b), .val (.int (2 : Int32)), .val (.int (1 : Int32)), .val (.double u0), .second]) rfl rfl ?_
      refine o_goto X12 hx (hb hby d5_43) (by decide) (pc' := 21) (by decide) ?_
      refine o_iloadN X12 hx (hb hby d5_21) rfl rfl ?_
      refine o_iloadN X12 hx (hb hby d5_22) rfl rfl ?_
      refine o_icmpNo X12 hx (hb hby d5_23) (tlt (by decide)).2.1 rfl ?_
      refine o_aloadN X12 hx (hb hby d5_26) rfl rfl rfl ?_
      refine o_iloadN X12 hx (hb hby d5_27) rfl rfl ?_
      refine o_daload X12 hx hZ e12 A_b ⟨by decide, by decide⟩ (v := (.double u1)) rfl (hb hby d5_28) rfl ?_
      refine o_dstore X12 hx (hb hby d5_29) (L' := #[.val (.ref a1), .val (.ref b), .val (.int (2 : Int32)), .val (.int (1 : Int32)), .val (.double u1), .second]) rfl rfl ?_
      refine o_dload X12 hx (hb hby d5_31) rfl rfl ?_
      refine o_dconst0I X12 hx (hb hby d5_33) rfl fun d33_2 hd33_2 => ?_
      have hm33_2 : (0 : Int).natAbs ≤ 0 := by decide
      refine o_dcmpI X12 hx (hb hby d5_34) hs1 hd33_2 rfl ?_
      by_cases hc35_2 : s1 = 0
      ·
        refine o_ifYes X12 hx (hb hby d5_35) ((if0 _ _).trans (teq ((oc_eq _ _).mpr hc35_2)).1) (by decide) (pc' := 40) (by decide) ?_
        refine o_iinc X12 hx (hb hby d5_40) rfl (v := (2 : Int32)) rfl (L' := #[.val (.ref a1), .val (.ref b), .val (.int (2 : Int32)), .val (.int (2 : Int32)), .val (.double u1), .second]) rfl rfl ?_
        refine o_goto X12 hx (hb hby d5_43) (by decide) (pc' := 21) (by decide) ?_
        refine o_iloadN X12 hx (hb hby d5_21) rfl rfl ?_
        refine o_iloadN X12 hx (hb hby d5_22) rfl rfl ?_
        refine o_icmpYes X12 hx (hb hby d5_23) (flt (by decide)).2.1 (by decide) (pc' := 46) (by decide) ?_
        refine o_iconst X12 hx (hb hby d5_46) (v := (0 : Int32)) rfl rfl ?_
        exact o_ret X12 hx hlk (t := .boolean) hret rfl (Or.inl ⟨rfl, by decide, _, rfl⟩) (hb hby d5_47) (by decide) (by decide) e12 ⟨(0 : Int32), rfl, N0, rfl, (Or.inr ⟨rfl, fun q => q.elim (fun h => h hc6) (fun q => q.elim (fun h => h hc35) (fun h => h hc35_2))⟩)⟩
      ·
        refine o_ifNo X12 hx (hb hby d5_35) ((if0 _ _).trans (feq (fun q => hc35_2 ((oc_eq _ _).mp q))).1) rfl ?_
        refine o_iconst X12 hx (hb hby d5_38) (v := (1 : Int32)) rfl rfl ?_
        exact o_ret X12 hx hlk (t := .boolean) hret rfl (Or.inl ⟨rfl, by decide, _, rfl⟩) (hb hby d5_39) (by decide) (by decide) e12 ⟨(1 : Int32), rfl, N0, rfl, (Or.inl ⟨rfl, Or.inr (Or.inr (hc35_2))⟩)⟩
    ·
      refine o_ifNo X12 hx (hb hby d5_35) ((if0 _ _).trans (feq (fun q => hc35 ((oc_eq _ _).mp q))).1) rfl ?_
      refine o_iconst X12 hx (hb hby d5_38) (v := (1 : Int32)) rfl rfl ?_
      exact o_ret X12 hx hlk (t := .boolean) hret rfl (Or.inl ⟨rfl, by decide, _, rfl⟩) (hb hby d5_39) (by decide) (by decide) e12 ⟨(1 : Int32), rfl, N0, rfl, (Or.inl ⟨rfl, Or.inr (Or.inl (hc35))⟩)⟩
  ·
    refine o_ifNo X1 hx (hb hby d5_6) ((if0 _ _).trans (feq (fun q => hc6 ((lw_eq _ _).mp q))).1) rfl ?_
    refine o_iconst X1 hx (hb hby d5_9) (v := (1 : Int32)) rfl rfl ?_
    exact o_ret X1 hx hlk (t := .boolean) hret rfl (Or.inl ⟨rfl, by decide, _, rfl⟩) (hb hby d5_10) (by decide) (by decide) e1 ⟨(1 : Int32), rfl, N0, rfl, (Or.inl ⟨rfl, Or.inl (hc6)⟩)⟩
def Q0 (Z : State) (p0 : Int32) (p1 : Int32) (p2 : Int32) (p3 : Int32) (p4 : Int32) (p5 : Int64) (h0 : Heap) (n0 : Nat) (v : Option Value) (h : Heap) (L : List Loc) : Prop := v = some (.int (1 : Int32)) ∧ Fr n0 L ∧ Keep h0 h []
set_option maxRecDepth 65536 in
set_option maxHeartbeats 40000000 in
theorem rm0 (l : Launch) (Z : State) (a0 : Array Value) (hw : ∀ d ∈ tables_1, d.before a0 Z = true) (ws : List Jvm.Cond) (p0 : Int32) (p1 : Int32) (p2 : Int32) (p3 : Int32) (p4 : Int32) (p5 : Int64) (h0 : Heap) (n0 : Nat) (O0 : Old Z n0 h0) :
    Met l Z x code maxLocals ret room_1 ws #[(.int p0), (.int p1), (.int p2), (.int p3), (.int p4), (.long p5)] h0 (Q0 Z p0 p1 p2 p3 p4 p5 h0 n0) := by
  refine met_of (L0 := #[.val (.int p0), .val (.int p1), .val (.int p2), .val (.int p3), .val (.int p4), .val (.long p5), .second, .unset, .unset, .unset, .unset, .unset, .unset, .unset, .unset, .unset, .unset, .unset, .unset, .unset, .unset]) (plainFor_of_name pn0) (fun m => by first | (simp [entryFrame, mkF, argsToLocals, Value.category, maxLocals]; done) | rfl) ?_
  intro p e s m below meth c T0 hx hby hml hown hnm hret hlk hZ X0 e0
  have N0 := Fr.nil n0
  have KK0 : Keep h0 h0 [] := Keep.refl _ _
  refine o_iloadN X0 hx (hb hby at_0) rfl rfl ?_
  refine Goes.on (fun _ k => X0.ldcInt hx hown (mvT hZ (wd0 hw)) (g := (mkF m 1 #[.val (.int p0), .val (.int p1), .val (.int p2), .val (.int p3), .val (.int p4), .val (.long p5), .second, .unset, .unset, .unset, .unset, .unset, .unset, .unset, .unset, .unset, .unset, .unset, .unset, .unset, .unset] [(.int p0)])) rfl (hb hby at_1) _ k) ?_
  show Goes p.tables e below (Ends s (Q0 Z p0 p1 p2 p3 p4 p5 h0 n0) room_1.cells room_1.slots) (T0.setTop (mkF m 3 #[.val (.int p0), .val (.int p1), .val (.int p2), .val (.int p3), .val (.int p4), .val (.long p5), .second, .unset, .unset, .unset, .unset, .unset, .unset, .unset, .unset, .unset, .unset, .unset, .unset, .unset, .unset] [(.int (2147483647 : Int32)), (.int p0)]))
  refine o_iand X0 hx (hb hby at_3) rfl ?_
  refine o_iconst X0 hx (hb hby at_4) (v := (3 : Int32)) rfl rfl ?_
  refine o_irem X0 hx (hb hby at_5) (by decide) rfl ?_
  refine o_istore X0 hx (hb hby at_6) (L' := #[.val (.int p0), .val (.int p1), .val (.int p2), .val (.int p3), .val (.int p4), .val (.long p5), .second, .val (.int ((p0 &&& (2147483647 : Int32)) % (3 : Int32))), .unset, .unset, .unset, .unset, .unset, .unset, .unset, .unset, .unset, .unset, .unset, .unset, .unset]) rfl rfl ?_
  refine o_iloadN X0 hx (hb hby at_8) rfl rfl ?_
  refine o_sipush X0 hx (hb hby at_9) (v := (1000 : Int32)) rfl rfl ?_
  refine o_irem X0 hx (hb hby at_12) (by decide) rfl ?_
  refine o_istore X0 hx (hb hby at_13) (L' := #[.val (.int p0), .val (.int p1), .val (.int p2), .val (.int p3), .val (.int p4), .val (.long p5), .second, .val (.int ((p0 &&& (2147483647 : Int32)) % (3 : Int32))), .val (.int (p1 % (1000 : Int32))), .unset, .unset, .unset, .unset, .unset, .unset, .unset, .unset, .unset, .unset, .unset, .unset]) rfl rfl ?_
  refine o_iloadN X0 hx (hb hby at_15) rfl rfl ?_
  refine o_sipush X0 hx (hb hby at_16) (v := (1000 : Int32)) rfl rfl ?_
  refine o_irem X0 hx (hb hby at_19) (by decide) rfl ?_
  refine o_istore X0 hx (hb hby at_20) (L' := #[.val (.int p0), .val (.int p1), .val (.int p2), .val (.int p3), .val (.int p4), .val (.long p5), .second, .val (.int ((p0 &&& (2147483647 : Int32)) % (3 : Int32))), .val (.int (p1 % (1000 : Int32))), .val (.int (p2 % (1000 : Int32))), .unset, .unset, .unset, .unset, .unset, .unset, .unset, .unset, .unset, .unset, .unset]) rfl rfl ?_
  refine o_iloadN X0 hx (hb hby at_22) rfl rfl ?_
  refine o_iconst X0 hx (hb hby at_23) (v := (2 : Int32)) rfl rfl ?_
  refine o_ishr X0 hx (hb hby at_24) rfl ?_
  refine o_iconst X0 hx (hb hby at_25) (v := (1 : Int32)) rfl rfl ?_
  refine o_iand X0 hx (hb hby at_26) rfl ?_
  suffices J40 : ∀ (z40 : Int64) (hz40 : True), Goes p.tables e below (Ends s (Q0 Z p0 p1 p2 p3 p4 p5 h0 n0) room_1.cells room_1.slots) (T0.setTop (mkF m 40 #[.val (.int p0), .val (.int p1), .val (.int p2), .val (.int p3), .val (.int p4), .val (.long p5), .second, .val (.int ((p0 &&& (2147483647 : Int32)) % (3 : Int32))), .val (.int (p1 % (1000 : Int32))), .val (.int (p2 % (1000 : Int32))), .unset, .unset, .unset, .unset, .unset, .unset, .unset, .unset, .unset, .unset, .unset] [(.long z40)])) by
    by_cases hc27 : ((p0 >>> ((2 : Int32) &&& 31)) &&& (1 : Int32)) = (0 : Int32)
    ·
      refine o_ifYes X0 hx (hb hby at_27) ((if0 _ _).trans (teq hc27).1) (by decide) (pc' := 36) (by decide) ?_
      refine o_iloadN X0 hx (hb hby at_36) rfl rfl ?_
      refine o_iconst X0 hx (hb hby at_37) (v := (3 : Int32)) rfl rfl ?_
      refine o_ishr X0 hx (hb hby at_38) rfl ?_
      refine o_i2l X0 hx (hb hby at_39) rfl ?_
      exact J40 ((p0 >>> ((3 : Int32) &&& 31)).toInt64) trivial
    ·
      refine o_ifNo X0 hx (hb hby at_27) ((if0 _ _).trans (feq hc27).1) rfl ?_
      refine o_lload X0 hx (hb hby at_30) rfl rfl ?_
      refine o_lneg X0 hx (hb hby at_32) rfl ?_
      refine o_goto X0 hx (hb hby at_33) (by decide) (pc' := 40) (by decide) ?_
      exact J40 (-p5) trivial
  intro z40 hz40
  refine o_lstore X0 hx (hb hby at_40) (L' := #[.val (.int p0), .val (.int p1), .val (.int p2), .val (.int p3), .val (.int p4), .val (.long p5), .second, .val (.int ((p0 &&& (2147483647 : Int32)) % (3 : Int32))), .val (.int (p1 % (1000 : Int32))), .val (.int (p2 % (1000 : Int32))), .val (.long z40), .second, .unset, .unset, .unset, .unset, .unset, .unset, .unset, .unset, .unset]) rfl rfl ?_
  refine o_iconst X0 hx (hb hby at_42) (v := (2 : Int32)) rfl rfl ?_
  refine o_newP (aty := .double) X0 hx hZ (wd1 hw) e0 (hb hby at_43) (by decide) (cap := 2) (by decide) (by decide) (by decide) (by decide) (cells' := 1) (slots' := 2) rfl rfl rfl fun T43 h43 k43 b43 g43 X43 e43 E43 A43 => ?_
  have s_b43_h0 : h0.size ≤ b43 := Nat.le_trans KK0.1 (Nat.le_of_eq g43.symm)
  have n_b43 : n0 ≤ b43 := Nat.le_trans (O0.1 ▸ O0.2.1) (Nat.le_of_eq g43.symm)
  have KE43_h0 : Keep h0 h43 [] := KK0.ext E43
  have OE43 : Old Z n0 h43 := O0.ext E43
  have A_b43 : Arv Z h43 b43 k43 .double (2 : Int32) [(.double 0), (.double 0)] (.double 0) := (Arv.new A43 (by decide)).pad (pad_rep [] (.double 0) 2)
  refine o_astore X43 hx (hb hby at_45) rfl (L' := #[.val (.int p0), .val (.int p1), .val (.int p2), .val (.int p3), .val (.int p4), .val (.long p5), .second, .val (.int ((p0 &&& (2147483647 : Int32)) % (3 : Int32))), .val (.int (p1 % (1000 : Int32))), .val (.int (p2 % (1000 : Int32))), .val (.long z40), .second, .val (.ref b43), .unset, .unset, .unset, .unset, .unset, .unset, .unset, .unset]) rfl rfl ?_
  refine o_aload X43 hx (hb hby at_47) rfl rfl rfl ?_
  refine o_iconst X43 hx (hb hby at_49) (v := (0 : Int32)) rfl rfl ?_
  refine o_iload X43 hx (hb hby at_50) rfl rfl ?_
  have hm52 : (p1 % (1000 : Int32)).toInt.natAbs ≤ 999 := own_r1000
  refine o_i2dI X43 hx (hb hby at_52) rfl fun d52 hd52 => ?_
  refine o_stD X43 hx hZ e43 A_b43 (i := 0) ⟨by decide, by decide⟩ (by decide) (Nat.le_of_ble_eq_true rfl) (hb hby at_53) rfl fun T53 h53 X53 e53 W53 (A53 : Arv Z h53 b43 k43 .double (2 : Int32) [(.double d52), (.double 0)] (.double 0)) => ?_
  have N53 := Fr.snoc X53 N0 n_b43
  have KW53_h0 : Keep h0 h53 [] := KE43_h0.wr W53 (Or.inr s_b43_h0)
  have OW53 : Old Z n0 h53 := OE43.wr W53 n_b43
  refine o_aload X53 hx (hb hby at_54) rfl rfl rfl ?_
  refine o_iconst X53 hx (hb hby at_56) (v := (1 : Int32)) rfl rfl ?_
  refine o_iload X53 hx (hb hby at_57) rfl rfl ?_
  have hm59 : (p2 % (1000 : Int32)).toInt.natAbs ≤ 999 := own_r1000
  refine o_i2dI X53 hx (hb hby at_59) rfl fun d59 hd59 => ?_
  refine o_stD X53 hx hZ e53 A53 (i := 1) ⟨by decide, by decide⟩ (by decide) (Nat.le_of_ble_eq_true rfl) (hb hby at_60) rfl fun T60 h60 X60 e60 W60 (A60 : Arv Z h60 b43 k43 .double (2 : Int32) [(.double d52), (.double d59)] (.double 0)) => ?_
  have N60 := Fr.snoc X60 N53 n_b43
  have KW60_h0 : Keep h0 h60 [] := KW53_h0.wr W60 (Or.inr s_b43_h0)
  have OW60 : Old Z n0 h60 := OW53.wr W60 n_b43
  refine o_new X60 hx hZ hown (wd2 hw) (wd3 hw) (wd4 hw) e60 (hb hby at_61) (by decide) (by decide) (cells' := 2) (slots' := 4) rfl rfl rfl fun T61 h61 b61 g61 X61 e61 E61 A61 D61 => ?_
  have s_b61_h0 : h0.size ≤ b61 := Nat.le_trans KW60_h0.1 (Nat.le_of_eq g61.symm)
  have n_b61 : n0 ≤ b61 := Nat.le_trans (OW60.1 ▸ OW60.2.1) (Nat.le_of_eq g61.symm)
  have KE61_h0 : Keep h0 h61 [] := KW60_h0.ext E61
  have OE61 : Old Z n0 h61 := OW60.ext E61
  have Fb61_sums : Fld Z h61 b61 "com/example/rillgraph/rillgraph/core/model/Aggregator$Change" "sums" "[D" .null := D61 (Or.inr (wd12 hw)) (ty := (.array .double)) (by decide)
  have Fb61_count : Fld Z h61 b61 "com/example/rillgraph/rillgraph/core/model/Aggregator$Change" "count" "J" (.long (0 : Int64)) := D61 (Or.inl (wd23 hw)) (ty := .long) (by decide)
  refine o_dup X61 hx (hb hby at_64) rfl rfl ?_
  rcases own_w3 (w := p0) with hw3 | hw3 | hw3
  ·
    rw [hw3]
    show Goes p.tables e below (Ends s (Q0 Z p0 p1 p2 p3 p4 p5 h0 n0) room_1.cells room_1.slots) (T61.setTop (mkF m 65 #[.val (.int p0), .val (.int p1), .val (.int p2), .val (.int p3), .val (.int p4), .val (.long p5), .second, .val (.int (0 : Int32)), .val (.int (p1 % (1000 : Int32))), .val (.int (p2 % (1000 : Int32))), .val (.long z40), .second, .val (.ref b43), .unset, .unset, .unset, .unset, .unset, .unset, .unset, .unset] [(.ref b61), (.ref b61)]))
    refine o_iload X61 hx (hb hby at_65) rfl rfl ?_
    refine o_special X61 hx hZ rfl rfl hown (wd5 hw) (wd6 hw) (by decide) (a := b61) (rmini0 l Z a0 hw b61 h61 n0 OE61 A61 Fb61_sums Fb61_count n_b61) (wd7 hw) (wd4 hw) e61 (by rw [hml]; rfl) (argsL := [(.int (0 : Int32))]) (rest := [(.ref b61)]) (W := 1) pd1 rfl rfl rfl rfl (hb hby at_67) (by decide) (by decide) (by decide) (by decide) (cells' := 3) (slots' := 4) rfl rfl rfl fun v67 T67 h67 Lc67 X67 e67 hq67 => ?_
    obtain ⟨b_67, k_67, rfl, N67q, K67, qE_67, gb_67, qF_67, qF_67_2, qA_67⟩ := hq67
    have N67 := Fr.app N60 N67q
    have s_b_67_h0 : h0.size ≤ b_67 := Nat.le_trans KE61_h0.1 gb_67
    have n_b_67 : n0 ≤ b_67 := Nat.le_trans (OE61.1 ▸ OE61.2.1) gb_67
    have KK67_h0 : Keep h0 h67 [] := KE61_h0.trans K67 (allS (Or.inr s_b61_h0) all0)
    have OK67 : Old Z n0 h67 := OE61.keep K67 (allS n_b61 all0)
    show Goes p.tables e below (Ends s (Q0 Z p0 p1 p2 p3 p4 p5 h0 n0) room_1.cells room_1.slots) (T67.setTop (mkF m 70 #[.val (.int p0), .val (.int p1), .val (.int p2), .val (.int p3), .val (.int p4), .val (.long p5), .second, .val (.int (0 : Int32)), .val (.int (p1 % (1000 : Int32))), .val (.int (p2 % (1000 : Int32))), .val (.long z40), .second, .val (.ref b43), .unset, .unset, .unset, .unset, .unset, .unset, .unset, .unset] [(.ref b61)]))
    refine o_astore X67 hx (hb hby at_70) rfl (L' := #[.val (.int p0), .val (.int p1), .val (.int p2), .val (.int p3), .val (.int p4), .val (.long p5), .second, .val (.int (0 : Int32)), .val (.int (p1 % (1000 : Int32))), .val (.int (p2 % (1000 : Int32))), .val (.long z40), .second, .val (.ref b43), .val (.ref b61), .unset, .unset, .unset, .unset, .unset, .unset, .unset]) rfl rfl ?_
    refine o_aload X67 hx (hb hby at_72) rfl rfl rfl ?_
    refine o_aload X67 hx (hb hby at_74) rfl rfl rfl ?_
    refine o_iloadN X67 hx (hb hby at_76) rfl rfl ?_
    refine o_lload X67 hx (hb hby at_77) rfl rfl ?_
    have fA79 : Arv Z h67 b43 k43 .double (2 : Int32) [(.double d52), (.double d59)] (.double 0) := ((A60.ext E61).keep K67 (ninS (Nat.ne_of_lt (Nat.lt_of_lt_of_le A60.lt (Nat.le_of_eq g61.symm))) nin0))
    refine o_virtual X67 hx hZ (C := "com/example/rillgraph/rillgraph/core/model/Aggregator$Change") hown (wd13 hw) (wd14 hw) (notFace_of_selects (args := #[]) (mvT hZ (wd16 hw))) (wd16 hw) (wd15 hw) (by decide) qE_67 (rmadd0 l Z a0 hw b61 b_67 b43 k_67 k43 p3 p5 ((0 : Int64)) d52 d59 ((p1 % (1000 : Int32)).toInt) ((p2 % (1000 : Int32)).toInt) h67 n0 OK67 qE_67 qF_67 qF_67_2 qA_67 fA79 n_b61 n_b_67 (Ne.symm (Nat.ne_of_lt (Nat.lt_of_lt_of_le (Nat.lt_of_lt_of_le (Nat.lt_of_lt_of_le (Nat.lt_of_lt_of_le A_b43.lt (Keep.of_wr W53).1) (Keep.of_wr W60).1) E61.1) gb_67))) (Nat.ne_of_lt (Nat.lt_of_lt_of_le A61.lt gb_67)) (Ne.symm (Nat.ne_of_lt (Nat.lt_of_lt_of_le (Nat.lt_of_lt_of_le (Nat.lt_of_lt_of_le A_b43.lt (Keep.of_wr W53).1) (Keep.of_wr W60).1) (Nat.le_of_eq g61.symm)))) (hd52) (hm52) (hd59) (hm59)) (wd17 hw) (wd4 hw) e67 (by rw [hml]; rfl) (argsL := [(.ref b43), (.int p3), (.long p5)]) (rest := []) (W := 0) pd2 rfl rfl rfl rfl (hb hby at_79) (by decide) (by decide) (by decide) (by decide) (cells' := 3) (slots' := 4) rfl rfl rfl fun v79 T79 h79 Lc79 X79 e79 hq79 => ?_
    obtain ⟨rfl, N79q, K79, qE_79, qF_79, qF_79_2, qA_79⟩ := hq79
    have N79 := Fr.app N67 N79q
    have KK79_h0 : Keep h0 h79 [] := KK67_h0.trans K79 (allS (Or.inr s_b61_h0) (allS (Or.inr s_b_67_h0) all0))
    have OK79 : Old Z n0 h79 := OK67.keep K79 (allS n_b61 (allS n_b_67 all0))
    show Goes p.tables e below (Ends s (Q0 Z p0 p1 p2 p3 p4 p5 h0 n0) room_1.cells room_1.slots) (T79.setTop (mkF m 82 #[.val (.int p0), .val (.int p1), .val (.int p2), .val (.int p3), .val (.int p4), .val (.long p5), .second, .val (.int (0 : Int32)), .val (.int (p1 % (1000 : Int32))), .val (.int (p2 % (1000 : Int32))), .val (.long z40), .second, .val (.ref b43), .val (.ref b61), .unset, .unset, .unset, .unset, .unset, .unset, .unset] []))
    refine o_aload X79 hx (hb hby at_82) rfl rfl rfl ?_
    refine o_aload X79 hx (hb hby at_84) rfl rfl rfl ?_
    refine o_iload X79 hx (hb hby at_86) rfl rfl ?_
    refine o_lload X79 hx (hb hby at_88) rfl rfl ?_
    have fA90 : Arv Z h79 b43 k43 .double (2 : Int32) [(.double d52), (.double d59)] (.double 0) := (fA79.keep K79 (ninS (Nat.ne_of_lt (Nat.lt_of_lt_of_le (Nat.lt_of_lt_of_le (Nat.lt_of_lt_of_le A_b43.lt (Keep.of_wr W53).1) (Keep.of_wr W60).1) (Nat.le_of_eq g61.symm))) (ninS (Nat.ne_of_lt (Nat.lt_of_lt_of_le (Nat.lt_of_lt_of_le (Nat.lt_of_lt_of_le (Nat.lt_of_lt_of_le A_b43.lt (Keep.of_wr W53).1) (Keep.of_wr W60).1) E61.1) gb_67)) nin0)))
    refine o_virtual X79 hx hZ (C := "com/example/rillgraph/rillgraph/core/model/Aggregator$Change") hown (wd13 hw) (wd14 hw) (notFace_of_selects (args := #[]) (mvT hZ (wd16 hw))) (wd16 hw) (wd15 hw) (by decide) qE_79 (rmadd0 l Z a0 hw b61 b_67 b43 k_67 k43 p4 z40 (((0 : Int64) + p5)) d52 d59 ((p1 % (1000 : Int32)).toInt) ((p2 % (1000 : Int32)).toInt) h79 n0 OK79 qE_79 qF_79 qF_79_2 qA_79 fA90 n_b61 n_b_67 (Ne.symm (Nat.ne_of_lt (Nat.lt_of_lt_of_le (Nat.lt_of_lt_of_le (Nat.lt_of_lt_of_le (Nat.lt_of_lt_of_le A_b43.lt (Keep.of_wr W53).1) (Keep.of_wr W60).1) E61.1) gb_67))) (Nat.ne_of_lt (Nat.lt_of_lt_of_le A61.lt gb_67)) (Ne.symm (Nat.ne_of_lt (Nat.lt_of_lt_of_le (Nat.lt_of_lt_of_le (Nat.lt_of_lt_of_le A_b43.lt (Keep.of_wr W53).1) (Keep.of_wr W60).1) (Nat.le_of_eq g61.symm)))) (hd52) (hm52) (hd59) (hm59)) (wd17 hw) (wd4 hw) e79 (by rw [hml]; rfl) (argsL := [(.ref b43), (.int p4), (.long z40)]) (rest := []) (W := 0) pd2 rfl rfl rfl rfl (hb hby at_90) (by decide) (by decide) (by decide) (by decide) (cells' := 3) (slots' := 4) rfl rfl rfl fun v90 T90 h90 Lc90 X90 e90 hq90 => ?_
    obtain ⟨rfl, N90q, K90, qE_90, qF_90, qF_90_2, qA_90⟩ := hq90
    have N90 := Fr.app N79 N90q
    have KK90_h0 : Keep h0 h90 [] := KK79_h0.trans K90 (allS (Or.inr s_b61_h0) (allS (Or.inr s_b_67_h0) all0))
    have OK90 : Old Z n0 h90 := OK79.keep K90 (allS n_b61 (allS n_b_67 all0))
    show Goes p.tables e below (Ends s (Q0 Z p0 p1 p2 p3 p4 p5 h0 n0) room_1.cells room_1.slots) (T90.setTop (mkF m 93 #[.val (.int p0), .val (.int p1), .val (.int p2), .val (.int p3), .val (.int p4), .val (.long p5), .second, .val (.int (0 : Int32)), .val (.int (p1 % (1000 : Int32))), .val (.int (p2 % (1000 : Int32))), .val (.long z40), .second, .val (.ref b43), .val (.ref b61), .unset, .unset, .unset, .unset, .unset, .unset, .unset] []))
    refine o_aload X90 hx (hb hby at_93) rfl rfl rfl ?_
    refine o_virtual X90 hx hZ (C := "com/example/rillgraph/rillgraph/core/model/Aggregator$Change") hown (wd24 hw) (wd25 hw) (notFace_of_selects (args := #[]) (mvT hZ (wd27 hw))) (wd27 hw) (wd26 hw) (by decide) qE_90 (rmchg0 l Z a0 hw b61 b_67 k_67 ((((0 : Int64) + p5) + z40)) h90 n0 OK90 qF_90 qF_90_2 qA_90) (wd28 hw) (wd4 hw) e90 (by rw [hml]; rfl) (argsL := []) (rest := []) (W := 0) pd3 rfl rfl rfl rfl (hb hby at_95) (by decide) (by decide) (by decide) (by decide) (cells' := 3) (slots' := 4) rfl rfl rfl fun v95 T95 h95 Lc95 X95 e95 hq95 => ?_
    obtain ⟨z_95, rfl, N95q, K95, hz_95⟩ := hq95
    have N95 := Fr.app N90 N95q
    have e95_2 : T95.heap = h90 := e95.trans K95
    show Goes p.tables e below (Ends s (Q0 Z p0 p1 p2 p3 p4 p5 h0 n0) room_1.cells room_1.slots) (T95.setTop (mkF m 98 #[.val (.int p0), .val (.int p1), .val (.int p2), .val (.int p3), .val (.int p4), .val (.long p5), .second, .val (.int (0 : Int32)), .val (.int (p1 % (1000 : Int32))), .val (.int (p2 % (1000 : Int32))), .val (.long z40), .second, .val (.ref b43), .val (.ref b61), .unset, .unset, .unset, .unset, .unset, .unset, .unset] [(.int z_95)]))
    refine o_istore X95 hx (hb hby at_98) (L' := #[.val (.int p0), .val (.int p1), .val (.int p2), .val (.int p3), .val (.int p4), .val (.long p5), .second, .val (.int (0 : Int32)), .val (.int (p1 % (1000 : Int32))), .val (.int (p2 % (1000 : Int32))), .val (.long z40), .second, .val (.ref b43), .val (.ref b61), .val (.int z_95), .unset, .unset, .unset, .unset, .unset, .unset]) rfl rfl ?_
    refine o_iloadN X95 hx (hb hby at_100) rfl rfl ?_
    refine o_i2l X95 hx (hb hby at_101) rfl ?_
    refine o_iload X95 hx (hb hby at_102) rfl rfl ?_
    refine o_i2l X95 hx (hb hby at_104) rfl ?_
    refine o_ladd X95 hx (hb hby at_105) rfl ?_
    refine o_lstore X95 hx (hb hby at_106) (L' := #[.val (.int p0), .val (.int p1), .val (.int p2), .val (.int p3), .val (.int p4), .val (.long p5), .second, .val (.int (0 : Int32)), .val (.int (p1 % (1000 : Int32))), .val (.int (p2 % (1000 : Int32))), .val (.long z40), .second, .val (.ref b43), .val (.ref b61), .val (.int z_95), .val (.long ((p3.toInt64) + (p4.toInt64))), .second, .unset, .unset, .unset, .unset]) rfl rfl ?_
    refine o_lload X95 hx (hb hby at_108) rfl rfl ?_
    refine o_lload X95 hx (hb hby at_110) rfl rfl ?_
    refine o_ladd X95 hx (hb hby at_112) rfl ?_
    refine o_lconst X95 hx (hb hby at_113) (v := (0 : Int64)) rfl rfl ?_
    refine o_lcmp X95 hx (hb hby at_114) rfl ?_
    by_cases hc115 : (p5 + z40) = (0 : Int64)
    ·
      refine o_ifYes X95 hx (hb hby at_115) ((if0 _ _).trans (teq ((lw_eq _ _).mpr hc115)).1) (by decide) (pc' := 122) (by decide) ?_
      refine o_iconst X95 hx (hb hby at_122) (v := (0 : Int32)) rfl rfl ?_
      refine o_istore X95 hx (hb hby at_123) (L' := #[.val (.int p0), .val (.int p1), .val (.int p2), .val (.int p3), .val (.int p4), .val (.long p5), .second, .val (.int (0 : Int32)), .val (.int (p1 % (1000 : Int32))), .val (.int (p2 % (1000 : Int32))), .val (.long z40), .second, .val (.ref b43), .val (.ref b61), .val (.int z_95), .val (.long ((p3.toInt64) + (p4.toInt64))), .second, .val (.int (0 : Int32)), .unset, .unset, .unset]) rfl rfl ?_
      refine o_iload X95 hx (hb hby at_125) rfl rfl ?_
      refine o_iconst X95 hx (hb hby at_127) (v := (1 : Int32)) rfl rfl ?_
      refine o_icmpYes X95 hx (hb hby at_128) (tlt (by decide)).1 (by decide) (pc' := 146) (by decide) ?_
      refine o_iconst X95 hx (hb hby at_146) (v := (0 : Int32)) rfl rfl ?_
      refine o_istore X95 hx (hb hby at_147) (L' := #[.val (.int p0), .val (.int p1), .val (.int p2), .val (.int p3), .val (.int p4), .val (.long p5), .second, .val (.int (0 : Int32)), .val (.int (p1 % (1000 : Int32))), .val (.int (p2 % (1000 : Int32))), .val (.long z40), .second, .val (.ref b43), .val (.ref b61), .val (.int z_95), .val (.long ((p3.toInt64) + (p4.toInt64))), .second, .val (.int (0 : Int32)), .val (.int (0 : Int32)), .unset, .unset]) rfl rfl ?_
      refine o_iload X95 hx (hb hby at_149) rfl rfl ?_
      refine o_iconst X95 hx (hb hby at_151) (v := (2 : Int32)) rfl rfl ?_
      refine o_icmpYes X95 hx (hb hby at_152) (tlt (by decide)).1 (by decide) (pc' := 170) (by decide) ?_
      refine o_iconst X95 hx (hb hby at_170) (v := (0 : Int32)) rfl rfl ?_
      refine o_istore X95 hx (hb hby at_171) (L' := #[.val (.int p0), .val (.int p1), .val (.int p2), .val (.int p3), .val (.int p4), .val (.long p5), .second, .val (.int (0 : Int32)), .val (.int (p1 % (1000 : Int32))), .val (.int (p2 % (1000 : Int32))), .val (.long z40), .second, .val (.ref b43), .val (.ref b61), .val (.int z_95), .val (.long ((p3.toInt64) + (p4.toInt64))), .second, .val (.int (0 : Int32)), .val (.int (0 : Int32)), .val (.int (0 : Int32)), .unset]) rfl rfl ?_
      refine o_iload X95 hx (hb hby at_173) rfl rfl ?_
      refine o_ifNo X95 hx (hb hby at_175) ((if0 _ _).trans (teq (by decide)).2) rfl ?_
      refine o_iload X95 hx (hb hby at_178) rfl rfl ?_
      refine o_ifNo X95 hx (hb hby at_180) ((if0 _ _).trans (teq (by decide)).2) rfl ?_
      refine o_iload X95 hx (hb hby at_183) rfl rfl ?_
      refine o_ifYes X95 hx (hb hby at_185) ((if0 _ _).trans (teq (by decide)).1) (by decide) (pc' := 192) (by decide) ?_
      refine o_iconst X95 hx (hb hby at_192) (v := (0 : Int32)) rfl rfl ?_
      refine o_istore X95 hx (hb hby at_193) (L' := #[.val (.int p0), .val (.int p1), .val (.int p2), .val (.int p3), .val (.int p4), .val (.long p5), .second, .val (.int (0 : Int32)), .val (.int (p1 % (1000 : Int32))), .val (.int (p2 % (1000 : Int32))), .val (.long z40), .second, .val (.ref b43), .val (.ref b61), .val (.int z_95), .val (.long ((p3.toInt64) + (p4.toInt64))), .second, .val (.int (0 : Int32)), .val (.int (0 : Int32)), .val (.int (0 : Int32)), .val (.int (0 : Int32))]) rfl rfl ?_
      refine o_iload X95 hx (hb hby at_195) rfl rfl ?_
      refine o_iload X95 hx (hb hby at_197) rfl rfl ?_
      have hc199 : z_95 = (0 : Int32) := own_n hz_95 (fun q => q (own_cnt.mpr hc115))
      refine o_icmpNo X95 hx (hb hby at_199) (teq hc199).2 rfl ?_
      refine o_iconst X95 hx (hb hby at_202) (v := (1 : Int32)) rfl rfl ?_
      refine o_goto X95 hx (hb hby at_203) (by decide) (pc' := 207) (by decide) ?_
      exact o_ret X95 hx hlk (t := .boolean) hret rfl (Or.inl ⟨rfl, by decide, _, rfl⟩) (hb hby at_207) (by decide) (by decide) e95_2 ⟨rfl, N95, KK90_h0⟩
    ·
      refine o_ifNo X95 hx (hb hby at_115) ((if0 _ _).trans (feq (fun q => hc115 ((lw_eq _ _).mp q))).1) rfl ?_
      refine o_iconst X95 hx (hb hby at_118) (v := (1 : Int32)) rfl rfl ?_
      refine o_goto X95 hx (hb hby at_119) (by decide) (pc' := 123) (by decide) ?_
      refine o_istore X95 hx (hb hby at_123) (L' := #[.val (.int p0), .val (.int p1), .val (.int p2), .val (.int p3), .val (.int p4), .val (.long p5), .second, .val (.int (0 : Int32)), .val (.int (p1 % (1000 : Int32))), .val (.int (p2 % (1000 : Int32))), .val (.long z40), .second, .val (.ref b43), .val (.ref b61), .val (.int z_95), .val (.long ((p3.toInt64) + (p4.toInt64))), .second, .val (.int (1 : Int32)), .unset, .unset, .unset]) rfl rfl ?_
      refine o_iload X95 hx (hb hby at_125) rfl rfl ?_
      refine o_iconst X95 hx (hb hby at_127) (v := (1 : Int32)) rfl rfl ?_
      refine o_icmpYes X95 hx (hb hby at_128) (tlt (by decide)).1 (by decide) (pc' := 146) (by decide) ?_
      refine o_iconst X95 hx (hb hby at_146) (v := (0 : Int32)) rfl rfl ?_
      refine o_istore X95 hx (hb hby at_147) (L' := #[.val (.int p0), .val (.int p1), .val (.int p2), .val (.int p3), .val (.int p4), .val (.long p5), .second, .val (.int (0 : Int32)), .val (.int (p1 % (1000 : Int32))), .val (.int (p2 % (1000 : Int32))), .val (.long z40), .second, .val (.ref b43), .val (.ref b61), .val (.int z_95), .val (.long ((p3.toInt64) + (p4.toInt64))), .second, .val (.int (1 : Int32)), .val (.int (0 : Int32)), .unset, .unset]) rfl rfl ?_
      refine o_iload X95 hx (hb hby at_149) rfl rfl ?_
      refine o_iconst X95 hx (hb hby at_151) (v := (2 : Int32)) rfl rfl ?_
      refine o_icmpYes X95 hx (hb hby at_152) (tlt (by decide)).1 (by decide) (pc' := 170) (by decide) ?_
      refine o_iconst X95 hx (hb hby at_170) (v := (0 : Int32)) rfl rfl ?_
      refine o_istore X95 hx (hb hby at_171) (L' := #[.val (.int p0), .val (.int p1), .val (.int p2), .val (.int p3), .val (.int p4), .val (.long p5), .second, .val (.int (0 : Int32)), .val (.int (p1 % (1000 : Int32))), .val (.int (p2 % (1000 : Int32))), .val (.long z40), .second, .val (.ref b43), .val (.ref b61), .val (.int z_95), .val (.long ((p3.toInt64) + (p4.toInt64))), .second, .val (.int (1 : Int32)), .val (.int (0 : Int32)), .val (.int (0 : Int32)), .unset]) rfl rfl ?_
      refine o_iload X95 hx (hb hby at_173) rfl rfl ?_
      refine o_ifYes X95 hx (hb hby at_175) ((if0 _ _).trans (feq (by decide)).2) (by decide) (pc' := 188) (by decide) ?_
      refine o_iconst X95 hx (hb hby at_188) (v := (1 : Int32)) rfl rfl ?_
      refine o_goto X95 hx (hb hby at_189) (by decide) (pc' := 193) (by decide) ?_
      refine o_istore X95 hx (hb hby at_193) (L' := #[.val (.int p0), .val (.int p1), .val (.int p2), .val (.int p3), .val (.int p4), .val (.long p5), .second, .val (.int (0 : Int32)), .val (.int (p1 % (1000 : Int32))), .val (.int (p2 % (1000 : Int32))), .val (.long z40), .second, .val (.ref b43), .val (.ref b61), .val (.int z_95), .val (.long ((p3.toInt64) + (p4.toInt64))), .second, .val (.int (1 : Int32)), .val (.int (0 : Int32)), .val (.int (0 : Int32)), .val (.int (1 : Int32))]) rfl rfl ?_
      refine o_iload X95 hx (hb hby at_195) rfl rfl ?_
      refine o_iload X95 hx (hb hby at_197) rfl rfl ?_
      have hc199_2 : z_95 = (1 : Int32) := own_y hz_95 (fun q => hc115 (own_cnt.mp q))
      refine o_icmpNo X95 hx (hb hby at_199) (teq hc199_2).2 rfl ?_
      refine o_iconst X95 hx (hb hby at_202) (v := (1 : Int32)) rfl rfl ?_
      refine o_goto X95 hx (hb hby at_203) (by decide) (pc' := 207) (by decide) ?_
      exact o_ret X95 hx hlk (t := .boolean) hret rfl (Or.inl ⟨rfl, by decide, _, rfl⟩) (hb hby at_207) (by decide) (by decide) e95_2 ⟨rfl, N95, KK90_h0⟩
  ·
    rw [hw3]
    show Goes p.tables e below (Ends s (Q0 Z p0 p1 p2 p3 p4 p5 h0 n0) room_1.cells room_1.slots) (T61.setTop (mkF m 65 #[.val (.int p0), .val (.int p1), .val (.int p2), .val (.int p3), .val (.int p4), .val (.long p5), .second, .val (.int (1 : Int32)), .val (.int (p1 % (1000 : Int32))), .val (.int (p2 % (1000 : Int32))), .val (.long z40), .second, .val (.ref b43), .unset, .unset, .unset, .unset, .unset, .unset, .unset, .unset] [(.ref b61), (.ref b61)]))
    refine o_iload X61 hx (hb hby at_65) rfl rfl ?_
    refine o_special X61 hx hZ rfl rfl hown (wd5 hw) (wd6 hw) (by decide) (a := b61) (rmini1 l Z a0 hw b61 h61 n0 OE61 A61 Fb61_sums Fb61_count n_b61) (wd7 hw) (wd4 hw) e61 (by rw [hml]; rfl) (argsL := [(.int (1 : Int32))]) (rest := [(.ref b61)]) (W := 1) pd1 rfl rfl rfl rfl (hb hby at_67) (by decide) (by decide) (by decide) (by decide) (cells' := 3) (slots' := 5) rfl rfl rfl fun v67_2 T67_2 h67_2 Lc67_2 X67_2 e67_2 hq67_2 => ?_
    obtain ⟨b_67_2, k_67_2, rfl, N67q_2, K67_2, qE_67_2, gb_67_2, qF_67_3, qF_67_4, qA_67_2⟩ := hq67_2
    have N67_2 := Fr.app N60 N67q_2
    have s_b_67_2_h0 : h0.size ≤ b_67_2 := Nat.le_trans KE61_h0.1 gb_67_2
    have n_b_67_2 : n0 ≤ b_67_2 := Nat.le_trans (OE61.1 ▸ OE61.2.1) gb_67_2
    have KK67_2_h0 : Keep h0 h67_2 [] := KE61_h0.trans K67_2 (allS (Or.inr s_b61_h0) all0)
    have OK67_2 : Old Z n0 h67_2 := OE61.keep K67_2 (allS n_b61 all0)
    show Goes p.tables e below (Ends s (Q0 Z p0 p1 p2 p3 p4 p5 h0 n0) room_1.cells room_1.slots) (T67_2.setTop (mkF m 70 #[.val (.int p0), .val (.int p1), .val (.int p2), .val (.int p3), .val (.int p4), .val (.long p5), .second, .val (.int (1 : Int32)), .val (.int (p1 % (1000 : Int32))), .val (.int (p2 % (1000 : Int32))), .val (.long z40), .second, .val (.ref b43), .unset, .unset, .unset, .unset, .unset, .unset, .unset, .unset] [(.ref b61)]))
    refine o_astore X67_2 hx (hb hby at_70) rfl (L' := #[.val (.int p0), .val (.int p1), .val (.int p2), .val (.int p3), .val (.int p4), .val (.long p5), .second, .val (.int (1 : Int32)), .val (.int (p1 % (1000 : Int32))), .val (.int (p2 % (1000 : Int32))), .val (.long z40), .second, .val (.ref b43), .val (.ref b61), .unset, .unset, .unset, .unset, .unset, .unset, .unset]) rfl rfl ?_
    refine o_aload X67_2 hx (hb hby at_72) rfl rfl rfl ?_
    refine o_aload X67_2 hx (hb hby at_74) rfl rfl rfl ?_
    refine o_iloadN X67_2 hx (hb hby at_76) rfl rfl ?_
    refine o_lload X67_2 hx (hb hby at_77) rfl rfl ?_
    have fA79_2 : Arv Z h67_2 b43 k43 .double (2 : Int32) [(.double d52), (.double d59)] (.double 0) := ((A60.ext E61).keep K67_2 (ninS (Nat.ne_of_lt (Nat.lt_of_lt_of_le A60.lt (Nat.le_of_eq g61.symm))) nin0))
    refine o_virtual X67_2 hx hZ (C := "com/example/rillgraph/rillgraph/core/model/Aggregator$Change") hown (wd13 hw) (wd14 hw) (notFace_of_selects (args := #[]) (mvT hZ (wd16 hw))) (wd16 hw) (wd15 hw) (by decide) qE_67_2 (rmadd1 l Z a0 hw b61 b_67_2 b43 k_67_2 k43 p3 p5 ((0 : Int64)) 0 d52 d59 0 ((p1 % (1000 : Int32)).toInt) ((p2 % (1000 : Int32)).toInt) h67_2 n0 OK67_2 qE_67_2 qF_67_3 qF_67_4 qA_67_2 fA79_2 n_b61 n_b_67_2 (Ne.symm (Nat.ne_of_lt (Nat.lt_of_lt_of_le (Nat.lt_of_lt_of_le (Nat.lt_of_lt_of_le (Nat.lt_of_lt_of_le A_b43.lt (Keep.of_wr W53).1) (Keep.of_wr W60).1) E61.1) gb_67_2))) (Nat.ne_of_lt (Nat.lt_of_lt_of_le A61.lt gb_67_2)) (Ne.symm (Nat.ne_of_lt (Nat.lt_of_lt_of_le (Nat.lt_of_lt_of_le (Nat.lt_of_lt_of_le A_b43.lt (Keep.of_wr W53).1) (Keep.of_wr W60).1) (Nat.le_of_eq g61.symm)))) (own_d00) (Nat.le_trans (show (0 : Int).natAbs ≤ 0 by decide) (by decide)) (hd52) (hm52) (hd59) (hm59)) (wd17 hw) (wd4 hw) e67_2 (by rw [hml]; rfl) (argsL := [(.ref b43), (.int p3), (.long p5)]) (rest := []) (W := 0) pd2 rfl rfl rfl rfl (hb hby at_79) (by decide) (by decide) (by decide) (by decide) (cells' := 3) (slots' := 5) rfl rfl rfl fun v79_2 T79_2 h79_2 Lc79_2 X79_2 e79_2 hq79_2 => ?_
    obtain ⟨x0_79, rfl, N79q_2, K79_2, qE_79_2, qF_79_3, qF_79_4, qA_79_2, hx0_79⟩ := hq79_2
    have N79_2 := Fr.app N67_2 N79q_2
    have KK79_2_h0 : Keep h0 h79_2 [] := KK67_2_h0.trans K79_2 (allS (Or.inr s_b61_h0) (allS (Or.inr s_b_67_2_h0) all0))
    have OK79_2 : Old Z n0 h79_2 := OK67_2.keep K79_2 (allS n_b61 (allS n_b_67_2 all0))
    show Goes p.tables e below (Ends s (Q0 Z p0 p1 p2 p3 p4 p5 h0 n0) room_1.cells room_1.slots) (T79_2.setTop (mkF m 82 #[.val (.int p0), .val (.int p1), .val (.int p2), .val (.int p3), .val (.int p4), .val (.long p5), .second, .val (.int (1 : Int32)), .val (.int (p1 % (1000 : Int32))), .val (.int (p2 % (1000 : Int32))), .val (.long z40), .second, .val (.ref b43), .val (.ref b61), .unset, .unset, .unset, .unset, .unset, .unset, .unset] []))
    refine o_aload X79_2 hx (hb hby at_82) rfl rfl rfl ?_
    refine o_aload X79_2 hx (hb hby at_84) rfl rfl rfl ?_
    refine o_iload X79_2 hx (hb hby at_86) rfl rfl ?_
    refine o_lload X79_2 hx (hb hby at_88) rfl rfl ?_
    have fA90_2 : Arv Z h79_2 b43 k43 .double (2 : Int32) [(.double d52), (.double d59)] (.double 0) := (fA79_2.keep K79_2 (ninS (Nat.ne_of_lt (Nat.lt_of_lt_of_le (Nat.lt_of_lt_of_le (Nat.lt_of_lt_of_le A_b43.lt (Keep.of_wr W53).1) (Keep.of_wr W60).1) (Nat.le_of_eq g61.symm))) (ninS (Nat.ne_of_lt (Nat.lt_of_lt_of_le (Nat.lt_of_lt_of_le (Nat.lt_of_lt_of_le (Nat.lt_of_lt_of_le A_b43.lt (Keep.of_wr W53).1) (Keep.of_wr W60).1) E61.1) gb_67_2)) nin0)))
    refine o_virtual X79_2 hx hZ (C := "com/example/rillgraph/rillgraph/core/model/Aggregator$Change") hown (wd13 hw) (wd14 hw) (notFace_of_selects (args := #[]) (mvT hZ (wd16 hw))) (wd16 hw) (wd15 hw) (by decide) qE_79_2 (rmadd1 l Z a0 hw b61 b_67_2 b43 k_67_2 k43 p4 z40 (((0 : Int64) + p5)) x0_79 d52 d59 ((0 + (p3.toInt * (p1 % (1000 : Int32)).toInt))) ((p1 % (1000 : Int32)).toInt) ((p2 % (1000 : Int32)).toInt) h79_2 n0 OK79_2 qE_79_2 qF_79_3 qF_79_4 qA_79_2 fA90_2 n_b61 n_b_67_2 (Ne.symm (Nat.ne_of_lt (Nat.lt_of_lt_of_le (Nat.lt_of_lt_of_le (Nat.lt_of_lt_of_le (Nat.lt_of_lt_of_le A_b43.lt (Keep.of_wr W53).1) (Keep.of_wr W60).1) E61.1) gb_67_2))) (Nat.ne_of_lt (Nat.lt_of_lt_of_le A61.lt gb_67_2)) (Ne.symm (Nat.ne_of_lt (Nat.lt_of_lt_of_le (Nat.lt_of_lt_of_le (Nat.lt_of_lt_of_le A_b43.lt (Keep.of_wr W53).1) (Keep.of_wr W60).1) (Nat.le_of_eq g61.symm)))) (hx0_79) (Nat.le_trans (own_addb (show (0 : Int).natAbs ≤ 0 by decide) (own_mulb (own_i32b p3) own_r1000 rfl) rfl) (by decide)) (hd52) (hm52) (hd59) (hm59)) (wd17 hw) (wd4 hw) e79_2 (by rw [hml]; rfl) (argsL := [(.ref b43), (.int p4), (.long z40)]) (rest := []) (W := 0) pd2 rfl rfl rfl rfl (hb hby at_90) (by decide) (by decide) (by decide) (by decide) (cells' := 3) (slots' := 5) rfl rfl rfl fun v90_2 T90_2 h90_2 Lc90_2 X90_2 e90_2 hq90_2 => ?_
    obtain ⟨x0_90, rfl, N90q_2, K90_2, qE_90_2, qF_90_3, qF_90_4, qA_90_2, hx0_90⟩ := hq90_2
    have N90_2 := Fr.app N79_2 N90q_2
    have KK90_2_h0 : Keep h0 h90_2 [] := KK79_2_h0.trans K90_2 (allS (Or.inr s_b61_h0) (allS (Or.inr s_b_67_2_h0) all0))
    have OK90_2 : Old Z n0 h90_2 := OK79_2.keep K90_2 (allS n_b61 (allS n_b_67_2 all0))
    show Goes p.tables e below (Ends s (Q0 Z p0 p1 p2 p3 p4 p5 h0 n0) room_1.cells room_1.slots) (T90_2.setTop (mkF m 93 #[.val (.int p0), .val (.int p1), .val (.int p2), .val (.int p3), .val (.int p4), .val (.long p5), .second, .val (.int (1 : Int32)), .val (.int (p1 % (1000 : Int32))), .val (.int (p2 % (1000 : Int32))), .val (.long z40), .second, .val (.ref b43), .val (.ref b61), .unset, .unset, .unset, .unset, .unset, .unset, .unset] []))
    refine o_aload X90_2 hx (hb hby at_93) rfl rfl rfl ?_
    refine o_virtual X90_2 hx hZ (C := "com/example/rillgraph/rillgraph/core/model/Aggregator$Change") hown (wd24 hw) (wd25 hw) (notFace_of_selects (args := #[]) (mvT hZ (wd27 hw))) (wd27 hw) (wd26 hw) (by decide) qE_90_2 (rmchg1 l Z a0 hw b61 b_67_2 k_67_2 ((((0 : Int64) + p5) + z40)) x0_90 (((0 + (p3.toInt * (p1 % (1000 : Int32)).toInt)) + (p4.toInt * (p1 % (1000 : Int32)).toInt))) h90_2 n0 OK90_2 qF_90_3 qF_90_4 qA_90_2 (hx0_90) ((own_addb (own_addb (show (0 : Int).natAbs ≤ 0 by decide) (own_mulb (own_i32b p3) own_r1000 rfl) rfl) (own_mulb (own_i32b p4) own_r1000 rfl) rfl))) (wd28 hw) (wd4 hw) e90_2 (by rw [hml]; rfl) (argsL := []) (rest := []) (W := 0) pd3 rfl rfl rfl rfl (hb hby at_95) (by decide) (by decide) (by decide) (by decide) (cells' := 3) (slots' := 5) rfl rfl rfl fun v95_2 T95_2 h95_2 Lc95_2 X95_2 e95_3 hq95_2 => ?_
    obtain ⟨z_95_2, rfl, N95q_2, K95_2, hz_95_2⟩ := hq95_2
    have N95_2 := Fr.app N90_2 N95q_2
    have e95_4 : T95_2.heap = h90_2 := e95_3.trans K95_2
    show Goes p.tables e below (Ends s (Q0 Z p0 p1 p2 p3 p4 p5 h0 n0) room_1.cells room_1.slots) (T95_2.setTop (mkF m 98 #[.val (.int p0), .val (.int p1), .val (.int p2), .val (.int p3), .val (.int p4), .val (.long p5), .second, .val (.int (1 : Int32)), .val (.int (p1 % (1000 : Int32))), .val (.int (p2 % (1000 : Int32))), .val (.long z40), .second, .val (.ref b43), .val (.ref b61), .unset, .unset, .unset, .unset, .unset, .unset, .unset] [(.int z_95_2)]))
    refine o_istore X95_2 hx (hb hby at_98) (L' := #[.val (.int p0), .val (.int p1), .val (.int p2), .val (.int p3), .val (.int p4), .val (.long p5), .second, .val (.int (1 : Int32)), .val (.int (p1 % (1000 : Int32))), .val (.int (p2 % (1000 : Int32))), .val (.long z40), .second, .val (.ref b43), .val (.ref b61), .val (.int z_95_2), .unset, .unset, .unset, .unset, .unset, .unset]) rfl rfl ?_
    refine o_iloadN X95_2 hx (hb hby at_100) rfl rfl ?_
    refine o_i2l X95_2 hx (hb hby at_101) rfl ?_
    refine o_iload X95_2 hx (hb hby at_102) rfl rfl ?_
    refine o_i2l X95_2 hx (hb hby at_104) rfl ?_
    refine o_ladd X95_2 hx (hb hby at_105) rfl ?_
    refine o_lstore X95_2 hx (hb hby at_106) (L' := #[.val (.int p0), .val (.int p1), .val (.int p2), .val (.int p3), .val (.int p4), .val (.long p5), .second, .val (.int (1 : Int32)), .val (.int (p1 % (1000 : Int32))), .val (.int (p2 % (1000 : Int32))), .val (.long z40), .second, .val (.ref b43), .val (.ref b61), .val (.int z_95_2), .val (.long ((p3.toInt64) + (p4.toInt64))), .second, .unset, .unset, .unset, .unset]) rfl rfl ?_
    refine o_lload X95_2 hx (hb hby at_108) rfl rfl ?_
    refine o_lload X95_2 hx (hb hby at_110) rfl rfl ?_
    refine o_ladd X95_2 hx (hb hby at_112) rfl ?_
    refine o_lconst X95_2 hx (hb hby at_113) (v := (0 : Int64)) rfl rfl ?_
    refine o_lcmp X95_2 hx (hb hby at_114) rfl ?_
    by_cases hc115_2 : (p5 + z40) = (0 : Int64)
    ·
      refine o_ifYes X95_2 hx (hb hby at_115) ((if0 _ _).trans (teq ((lw_eq _ _).mpr hc115_2)).1) (by decide) (pc' := 122) (by decide) ?_
      refine o_iconst X95_2 hx (hb hby at_122) (v := (0 : Int32)) rfl rfl ?_
      refine o_istore X95_2 hx (hb hby at_123) (L' := #[.val (.int p0), .val (.int p1), .val (.int p2), .val (.int p3), .val (.int p4), .val (.long p5), .second, .val (.int (1 : Int32)), .val (.int (p1 % (1000 : Int32))), .val (.int (p2 % (1000 : Int32))), .val (.long z40), .second, .val (.ref b43), .val (.ref b61), .val (.int z_95_2), .val (.long ((p3.toInt64) + (p4.toInt64))), .second, .val (.int (0 : Int32)), .unset, .unset, .unset]) rfl rfl ?_
      refine o_iload X95_2 hx (hb hby at_125) rfl rfl ?_
      refine o_iconst X95_2 hx (hb hby at_127) (v := (1 : Int32)) rfl rfl ?_
      refine o_icmpNo X95_2 hx (hb hby at_128) (flt (by decide)).1 rfl ?_
      refine o_lload X95_2 hx (hb hby at_131) rfl rfl ?_
      refine o_iload X95_2 hx (hb hby at_133) rfl rfl ?_
      refine o_i2l X95_2 hx (hb hby at_135) rfl ?_
      refine o_lmul X95_2 hx (hb hby at_136) rfl ?_
      refine o_lconst X95_2 hx (hb hby at_137) (v := (0 : Int64)) rfl rfl ?_
      refine o_lcmp X95_2 hx (hb hby at_138) rfl ?_
      by_cases hc139 : (((p3.toInt64) + (p4.toInt64)) * ((p1 % (1000 : Int32)).toInt64)) = (0 : Int64)
      ·
        refine o_ifYes X95_2 hx (hb hby at_139) ((if0 _ _).trans (teq ((lw_eq _ _).mpr hc139)).1) (by decide) (pc' := 146) (by decide) ?_
        refine o_iconst X95_2 hx (hb hby at_146) (v := (0 : Int32)) rfl rfl ?_
        refine o_istore X95_2 hx (hb hby at_147) (L' := #[.val (.int p0), .val (.int p1), .val (.int p2), .val (.int p3), .val (.int p4), .val (.long p5), .second, .val (.int (1 : Int32)), .val (.int (p1 % (1000 : Int32))), .val (.int (p2 % (1000 : Int32))), .val (.long z40), .second, .val (.ref b43), .val (.ref b61), .val (.int z_95_2), .val (.long ((p3.toInt64) + (p4.toInt64))), .second, .val (.int (0 : Int32)), .val (.int (0 : Int32)), .unset, .unset]) rfl rfl ?_
        refine o_iload X95_2 hx (hb hby at_149) rfl rfl ?_
        refine o_iconst X95_2 hx (hb hby at_151) (v := (2 : Int32)) rfl rfl ?_
        refine o_icmpYes X95_2 hx (hb hby at_152) (tlt (by decide)).1 (by decide) (pc' := 170) (by decide) ?_
        refine o_iconst X95_2 hx (hb hby at_170) (v := (0 : Int32)) rfl rfl ?_
        refine o_istore X95_2 hx (hb hby at_171) (L' := #[.val (.int p0), .val (.int p1), .val (.int p2), .val (.int p3), .val (.int p4), .val (.long p5), .second, .val (.int (1 : Int32)), .val (.int (p1 % (1000 : Int32))), .val (.int (p2 % (1000 : Int32))), .val (.long z40), .second, .val (.ref b43), .val (.ref b61), .val (.int z_95_2), .val (.long ((p3.toInt64) + (p4.toInt64))), .second, .val (.int (0 : Int32)), .val (.int (0 : Int32)), .val (.int (0 : Int32)), .unset]) rfl rfl ?_
        refine o_iload X95_2 hx (hb hby at_173) rfl rfl ?_
        refine o_ifNo X95_2 hx (hb hby at_175) ((if0 _ _).trans (teq (by decide)).2) rfl ?_
        refine o_iload X95_2 hx (hb hby at_178) rfl rfl ?_
        refine o_ifNo X95_2 hx (hb hby at_180) ((if0 _ _).trans (teq (by decide)).2) rfl ?_
        refine o_iload X95_2 hx (hb hby at_183) rfl rfl ?_
        refine o_ifYes X95_2 hx (hb hby at_185) ((if0 _ _).trans (teq (by decide)).1) (by decide) (pc' := 192) (by decide) ?_
        refine o_iconst X95_2 hx (hb hby at_192) (v := (0 : Int32)) rfl rfl ?_
        refine o_istore X95_2 hx (hb hby at_193) (L' := #[.val (.int p0), .val (.int p1), .val (.int p2), .val (.int p3), .val (.int p4), .val (.long p5), .second, .val (.int (1 : Int32)), .val (.int (p1 % (1000 : Int32))), .val (.int (p2 % (1000 : Int32))), .val (.long z40), .second, .val (.ref b43), .val (.ref b61), .val (.int z_95_2), .val (.long ((p3.toInt64) + (p4.toInt64))), .second, .val (.int (0 : Int32)), .val (.int (0 : Int32)), .val (.int (0 : Int32)), .val (.int (0 : Int32))]) rfl rfl ?_
        refine o_iload X95_2 hx (hb hby at_195) rfl rfl ?_
        refine o_iload X95_2 hx (hb hby at_197) rfl rfl ?_
        have hc199_3 : z_95_2 = (0 : Int32) := own_n hz_95_2 (fun q => q.elim (fun h => h (own_cnt.mpr hc115_2)) (fun h => h ((own_sum own_r1000).mp hc139)))
        refine o_icmpNo X95_2 hx (hb hby at_199) (teq hc199_3).2 rfl ?_
        refine o_iconst X95_2 hx (hb hby at_202) (v := (1 : Int32)) rfl rfl ?_
        refine o_goto X95_2 hx (hb hby at_203) (by decide) (pc' := 207) (by decide) ?_
        exact o_ret X95_2 hx hlk (t := .boolean) hret rfl (Or.inl ⟨rfl, by decide, _, rfl⟩) (hb hby at_207) (by decide) (by decide) e95_4 ⟨rfl, N95_2, KK90_2_h0⟩
      ·
        refine o_ifNo X95_2 hx (hb hby at_139) ((if0 _ _).trans (feq (fun q => hc139 ((lw_eq _ _).mp q))).1) rfl ?_
        refine o_iconst X95_2 hx (hb hby at_142) (v := (1 : Int32)) rfl rfl ?_
        refine o_goto X95_2 hx (hb hby at_143) (by decide) (pc' := 147) (by decide) ?_
        refine o_istore X95_2 hx (hb hby at_147) (L' := #[.val (.int p0), .val (.int p1), .val (.int p2), .val (.int p3), .val (.int p4), .val (.long p5), .second, .val (.int (1 : Int32)), .val (.int (p1 % (1000 : Int32))), .val (.int (p2 % (1000 : Int32))), .val (.long z40), .second, .val (.ref b43), .val (.ref b61), .val (.int z_95_2), .val (.long ((p3.toInt64) + (p4.toInt64))), .second, .val (.int (0 : Int32)), .val (.int (1 : Int32)), .unset, .unset]) rfl rfl ?_
        refine o_iload X95_2 hx (hb hby at_149) rfl rfl ?_
        refine o_iconst X95_2 hx (hb hby at_151) (v := (2 : Int32)) rfl rfl ?_
        refine o_icmpYes X95_2 hx (hb hby at_152) (tlt (by decide)).1 (by decide) (pc' := 170) (by decide) ?_
        refine o_iconst X95_2 hx (hb hby at_170) (v := (0 : Int32)) rfl rfl ?_
        refine o_istore X95_2 hx (hb hby at_171) (L' := #[.val (.int p0), .val (.int p1), .val (.int p2), .val (.int p3), .val (.int p4), .val (.long p5), .second, .val (.int (1 : Int32)), .val (.int (p1 % (1000 : Int32))), .val (.int (p2 % (1000 : Int32))), .val (.long z40), .second, .val (.ref b43), .val (.ref b61), .val (.int z_95_2), .val (.long ((p3.toInt64) + (p4.toInt64))), .second, .val (.int (0 : Int32)), .val (.int (1 : Int32)), .val (.int (0 : Int32)), .unset]) rfl rfl ?_
        refine o_iload X95_2 hx (hb hby at_173) rfl rfl ?_
        refine o_ifNo X95_2 hx (hb hby at_175) ((if0 _ _).trans (teq (by decide)).2) rfl ?_
        refine o_iload X95_2 hx (hb hby at_178) rfl rfl ?_
        refine o_ifYes X95_2 hx (hb hby at_180) ((if0 _ _).trans (feq (by decide)).2) (by decide) (pc' := 188) (by decide) ?_
        refine o_iconst X95_2 hx (hb hby at_188) (v := (1 : Int32)) rfl rfl ?_
        refine o_goto X95_2 hx (hb hby at_189) (by decide) (pc' := 193) (by decide) ?_
        refine o_istore X95_2 hx (hb hby at_193) (L' := #[.val (.int p0), .val (.int p1), .val (.int p2), .val (.int p3), .val (.int p4), .val (.long p5), .second, .val (.int (1 : Int32)), .val (.int (p1 % (1000 : Int32))), .val (.int (p2 % (1000 : Int32))), .val (.long z40), .second, .val (.ref b43), .val (.ref b61), .val (.int z_95_2), .val (.long ((p3.toInt64) + (p4.toInt64))), .second, .val (.int (0 : Int32)), .val (.int (1 : Int32)), .val (.int (0 : Int32)), .val (.int (1 : Int32))]) rfl rfl ?_
        refine o_iload X95_2 hx (hb hby at_195) rfl rfl ?_
        refine o_iload X95_2 hx (hb hby at_197) rfl rfl ?_
        have hc199_4 : z_95_2 = (1 : Int32) := own_y hz_95_2 (Or.inr (fun q => hc139 ((own_sum own_r1000).mpr q)))
        refine o_icmpNo X95_2 hx (hb hby at_199) (teq hc199_4).2 rfl ?_
        refine o_iconst X95_2 hx (hb hby at_202) (v := (1 : Int32)) rfl rfl ?_
        refine o_goto X95_2 hx (hb hby at_203) (by decide) (pc' := 207) (by decide) ?_
        exact o_ret X95_2 hx hlk (t := .boolean) hret rfl (Or.inl ⟨rfl, by decide, _, rfl⟩) (hb hby at_207) (by decide) (by decide) e95_4 ⟨rfl, N95_2, KK90_2_h0⟩
    ·
      refine o_ifNo X95_2 hx (hb hby at_115) ((if0 _ _).trans (feq (fun q => hc115_2 ((lw_eq _ _).mp q))).1) rfl ?_
      refine o_iconst X95_2 hx (hb hby at_118) (v := (1 : Int32)) rfl rfl ?_
      refine o_goto X95_2 hx (hb hby at_119) (by decide) (pc' := 123) (by decide) ?_
      refine o_istore X95_2 hx (hb hby at_123) (L' := #[.val (.int p0), .val (.int p1), .val (.int p2), .val (.int p3), .val (.int p4), .val (.long p5), .second, .val (.int (1 : Int32)), .val (.int (p1 % (1000 : Int32))), .val (.int (p2 % (1000 : Int32))), .val (.long z40), .second, .val (.ref b43), .val (.ref b61), .val (.int z_95_2), .val (.long ((p3.toInt64) + (p4.toInt64))), .second, .val (.int (1 : Int32)), .unset, .unset, .unset]) rfl rfl ?_
      refine o_iload X95_2 hx (hb hby at_125) rfl rfl ?_
      refine o_iconst X95_2 hx (hb hby at_127) (v := (1 : Int32)) rfl rfl ?_
      refine o_icmpNo X95_2 hx (hb hby at_128) (flt (by decide)).1 rfl ?_
      refine o_lload X95_2 hx (hb hby at_131) rfl rfl ?_
      refine o_iload X95_2 hx (hb hby at_133) rfl rfl ?_
      refine o_i2l X95_2 hx (hb hby at_135) rfl ?_
      refine o_lmul X95_2 hx (hb hby at_136) rfl ?_
      refine o_lconst X95_2 hx (hb hby at_137) (v := (0 : Int64)) rfl rfl ?_
      refine o_lcmp X95_2 hx (hb hby at_138) rfl ?_
      by_cases hc139_2 : (((p3.toInt64) + (p4.toInt64)) * ((p1 % (1000 : Int32)).toInt64)) = (0 : Int64)
      ·
        refine o_ifYes X95_2 hx (hb hby at_139) ((if0 _ _).trans (teq ((lw_eq _ _).mpr hc139_2)).1) (by decide) (pc' := 146) (by decide) ?_
        refine o_iconst X95_2 hx (hb hby at_146) (v := (0 : Int32)) rfl rfl ?_
        refine o_istore X95_2 hx (hb hby at_147) (L' := #[.val (.int p0), .val (.int p1), .val (.int p2), .val (.int p3), .val (.int p4), .val (.long p5), .second, .val (.int (1 : Int32)), .val (.int (p1 % (1000 : Int32))), .val (.int (p2 % (1000 : Int32))), .val (.long z40), .second, .val (.ref b43), .val (.ref b61), .val (.int z_95_2), .val (.long ((p3.toInt64) + (p4.toInt64))), .second, .val (.int (1 : Int32)), .val (.int (0 : Int32)), .unset, .unset]) rfl rfl ?_
        refine o_iload X95_2 hx (hb hby at_149) rfl rfl ?_
        refine o_iconst X95_2 hx (hb hby at_151) (v := (2 : Int32)) rfl rfl ?_
        refine o_icmpYes X95_2 hx (hb hby at_152) (tlt (by decide)).1 (by decide) (pc' := 170) (by decide) ?_
        refine o_iconst X95_2 hx (hb hby at_170) (v := (0 : Int32)) rfl rfl ?_
        refine o_istore X95_2 hx (hb hby at_171) (L' := #[.val (.int p0), .val (.int p1), .val (.int p2), .val (.int p3), .val (.int p4), .val (.long p5), .second, .val (.int (1 : Int32)), .val (.int (p1 % (1000 : Int32))), .val (.int (p2 % (1000 : Int32))), .val (.long z40), .second, .val (.ref b43), .val (.ref b61), .val (.int z_95_2), .val (.long ((p3.toInt64) + (p4.toInt64))), .second, .val (.int (1 : Int32)), .val (.int (0 : Int32)), .val (.int (0 : Int32)), .unset]) rfl rfl ?_
        refine o_iload X95_2 hx (hb hby at_173) rfl rfl ?_
        refine o_ifYes X95_2 hx (hb hby at_175) ((if0 _ _).trans (feq (by decide)).2) (by decide) (pc' := 188) (by decide) ?_
        refine o_iconst X95_2 hx (hb hby at_188) (v := (1 : Int32)) rfl rfl ?_
        refine o_goto X95_2 hx (hb hby at_189) (by decide) (pc' := 193) (by decide) ?_
        refine o_istore X95_2 hx (hb hby at_193) (L' := #[.val (.int p0), .val (.int p1), .val (.int p2), .val (.int p3), .val (.int p4), .val (.long p5), .second, .val (.int (1 : Int32)), .val (.int (p1 % (1000 : Int32))), .val (.int (p2 % (1000 : Int32))), .val (.long z40), .second, .val (.ref b43), .val (.ref b61), .val (.int z_95_2), .val (.long ((p3.toInt64) + (p4.toInt64))), .second, .val (.int (1 : Int32)), .val (.int (0 : Int32)), .val (.int (0 : Int32)), .val (.int (1 : Int32))]) rfl rfl ?_
        refine o_iload X95_2 hx (hb hby at_195) rfl rfl ?_
        refine o_iload X95_2 hx (hb hby at_197) rfl rfl ?_
        have hc199_5 : z_95_2 = (1 : Int32) := own_y hz_95_2 (Or.inl (fun q => hc115_2 (own_cnt.mp q)))
        refine o_icmpNo X95_2 hx (hb hby at_199) (teq hc199_5).2 rfl ?_
        refine o_iconst X95_2 hx (hb hby at_202) (v := (1 : Int32)) rfl rfl ?_
        refine o_goto X95_2 hx (hb hby at_203) (by decide) (pc' := 207) (by decide) ?_
        exact o_ret X95_2 hx hlk (t := .boolean) hret rfl (Or.inl ⟨rfl, by decide, _, rfl⟩) (hb hby at_207) (by decide) (by decide) e95_4 ⟨rfl, N95_2, KK90_2_h0⟩
      ·
        refine o_ifNo X95_2 hx (hb hby at_139) ((if0 _ _).trans (feq (fun q => hc139_2 ((lw_eq _ _).mp q))).1) rfl ?_
        refine o_iconst X95_2 hx (hb hby at_142) (v := (1 : Int32)) rfl rfl ?_
        refine o_goto X95_2 hx (hb hby at_143) (by decide) (pc' := 147) (by decide) ?_
        refine o_istore X95_2 hx (hb hby at_147) (L' := #[.val (.int p0), .val (.int p1), .val (.int p2), .val (.int p3), .val (.int p4), .val (.long p5), .second, .val (.int (1 : Int32)), .val (.int (p1 % (1000 : Int32))), .val (.int (p2 % (1000 : Int32))), .val (.long z40), .second, .val (.ref b43), .val (.ref b61), .val (.int z_95_2), .val (.long ((p3.toInt64) + (p4.toInt64))), .second, .val (.int (1 : Int32)), .val (.int (1 : Int32)), .unset, .unset]) rfl rfl ?_
        refine o_iload X95_2 hx (hb hby at_149) rfl rfl ?_
        refine o_iconst X95_2 hx (hb hby at_151) (v := (2 : Int32)) rfl rfl ?_
        refine o_icmpYes X95_2 hx (hb hby at_152) (tlt (by decide)).1 (by decide) (pc' := 170) (by decide) ?_
        refine o_iconst X95_2 hx (hb hby at_170) (v := (0 : Int32)) rfl rfl ?_
        refine o_istore X95_2 hx (hb hby at_171) (L' := #[.val (.int p0), .val (.int p1), .val (.int p2), .val (.int p3), .val (.int p4), .val (.long p5), .second, .val (.int (1 : Int32)), .val (.int (p1 % (1000 : Int32))), .val (.int (p2 % (1000 : Int32))), .val (.long z40), .second, .val (.ref b43), .val (.ref b61), .val (.int z_95_2), .val (.long ((p3.toInt64) + (p4.toInt64))), .second, .val (.int (1 : Int32)), .val (.int (1 : Int32)), .val (.int (0 : Int32)), .unset]) rfl rfl ?_
        refine o_iload X95_2 hx (hb hby at_173) rfl rfl ?_
        refine o_ifYes X95_2 hx (hb hby at_175) ((if0 _ _).trans (feq (by decide)).2) (by decide) (pc' := 188) (by decide) ?_
        refine o_iconst X95_2 hx (hb hby at_188) (v := (1 : Int32)) rfl rfl ?_
        refine o_goto X95_2 hx (hb hby at_189) (by decide) (pc' := 193) (by decide) ?_
        refine o_istore X95_2 hx (hb hby at_193) (L' := #[.val (.int p0), .val (.int p1), .val (.int p2), .val (.int p3), .val (.int p4), .val (.long p5), .second, .val (.int (1 : Int32)), .val (.int (p1 % (1000 : Int32))), .val (.int (p2 % (1000 : Int32))), .val (.long z40), .second, .val (.ref b43), .val (.ref b61), .val (.int z_95_2), .val (.long ((p3.toInt64) + (p4.toInt64))), .second, .val (.int (1 : Int32)), .val (.int (1 : Int32)), .val (.int (0 : Int32)), .val (.int (1 : Int32))]) rfl rfl ?_
        refine o_iload X95_2 hx (hb hby at_195) rfl rfl ?_
        refine o_iload X95_2 hx (hb hby at_197) rfl rfl ?_
        have hc199_6 : z_95_2 = (1 : Int32) := own_y hz_95_2 (Or.inl (fun q => hc115_2 (own_cnt.mp q)))
        refine o_icmpNo X95_2 hx (hb hby at_199) (teq hc199_6).2 rfl ?_
        refine o_iconst X95_2 hx (hb hby at_202) (v := (1 : Int32)) rfl rfl ?_
        refine o_goto X95_2 hx (hb hby at_203) (by decide) (pc' := 207) (by decide) ?_
        exact o_ret X95_2 hx hlk (t := .boolean) hret rfl (Or.inl ⟨rfl, by decide, _, rfl⟩) (hb hby at_207) (by decide) (by decide) e95_4 ⟨rfl, N95_2, KK90_2_h0⟩
  ·
    rw [hw3]
    show Goes p.tables e below (Ends s (Q0 Z p0 p1 p2 p3 p4 p5 h0 n0) room_1.cells room_1.slots) (T61.setTop (mkF m 65 #[.val (.int p0), .val (.int p1), .val (.int p2), .val (.int p3), .val (.int p4), .val (.long p5), .second, .val (.int (2 : Int32)), .val (.int (p1 % (1000 : Int32))), .val (.int (p2 % (1000 : Int32))), .val (.long z40), .second, .val (.ref b43), .unset, .unset, .unset, .unset, .unset, .unset, .unset, .unset] [(.ref b61), (.ref b61)]))
    refine o_iload X61 hx (hb hby at_65) rfl rfl ?_
    refine o_special X61 hx hZ rfl rfl hown (wd5 hw) (wd6 hw) (by decide) (a := b61) (rmini2 l Z a0 hw b61 h61 n0 OE61 A61 Fb61_sums Fb61_count n_b61) (wd7 hw) (wd4 hw) e61 (by rw [hml]; rfl) (argsL := [(.int (2 : Int32))]) (rest := [(.ref b61)]) (W := 1) pd1 rfl rfl rfl rfl (hb hby at_67) (by decide) (by decide) (by decide) (by decide) (cells' := 3) (slots' := 6) rfl rfl rfl fun v67_3 T67_3 h67_3 Lc67_3 X67_3 e67_3 hq67_3 => ?_
    obtain ⟨b_67_3, k_67_3, rfl, N67q_3, K67_3, qE_67_3, gb_67_3, qF_67_5, qF_67_6, qA_67_3⟩ := hq67_3
    have N67_3 := Fr.app N60 N67q_3
    have s_b_67_3_h0 : h0.size ≤ b_67_3 := Nat.le_trans KE61_h0.1 gb_67_3
    have n_b_67_3 : n0 ≤ b_67_3 := Nat.le_trans (OE61.1 ▸ OE61.2.1) gb_67_3
    have KK67_3_h0 : Keep h0 h67_3 [] := KE61_h0.trans K67_3 (allS (Or.inr s_b61_h0) all0)
    have OK67_3 : Old Z n0 h67_3 := OE61.keep K67_3 (allS n_b61 all0)
    show Goes p.tables e below (Ends s (Q0 Z p0 p1 p2 p3 p4 p5 h0 n0) room_1.cells room_1.slots) (T67_3.setTop (mkF m 70 #[.val (.int p0), .val (.int p1), .val (.int p2), .val (.int p3), .val (.int p4), .val (.long p5), .second, .val (.int (2 : Int32)), .val (.int (p1 % (1000 : Int32))), .val (.int (p2 % (1000 : Int32))), .val (.long z40), .second, .val (.ref b43), .unset, .unset, .unset, .unset, .unset, .unset, .unset, .unset] [(.ref b61)]))
    refine o_astore X67_3 hx (hb hby at_70) rfl (L' := #[.val (.int p0), .val (.int p1), .val (.int p2), .val (.int p3), .val (.int p4), .val (.long p5), .second, .val (.int (2 : Int32)), .val (.int (p1 % (1000 : Int32))), .val (.int (p2 % (1000 : Int32))), .val (.long z40), .second, .val (.ref b43), .val (.ref b61), .unset, .unset, .unset, .unset, .unset, .unset, .unset]) rfl rfl ?_
    refine o_aload X67_3 hx (hb hby at_72) rfl rfl rfl ?_
    refine o_aload X67_3 hx (hb hby at_74) rfl rfl rfl ?_
    refine o_iloadN X67_3 hx (hb hby at_76) rfl rfl ?_
    refine o_lload X67_3 hx (hb hby at_77) rfl rfl ?_
    have fA79_3 : Arv Z h67_3 b43 k43 .double (2 : Int32) [(.double d52), (.double d59)] (.double 0) := ((A60.ext E61).keep K67_3 (ninS (Nat.ne_of_lt (Nat.lt_of_lt_of_le A60.lt (Nat.le_of_eq g61.symm))) nin0))
    refine o_virtual X67_3 hx hZ (C := "com/example/rillgraph/rillgraph/core/model/Aggregator$Change") hown (wd13 hw) (wd14 hw) (notFace_of_selects (args := #[]) (mvT hZ (wd16 hw))) (wd16 hw) (wd15 hw) (by decide) qE_67_3 (rmadd2 l Z a0 hw b61 b_67_3 b43 k_67_3 k43 p3 p5 ((0 : Int64)) 0 0 d52 d59 0 0 ((p1 % (1000 : Int32)).toInt) ((p2 % (1000 : Int32)).toInt) h67_3 n0 OK67_3 qE_67_3 qF_67_5 qF_67_6 qA_67_3 fA79_3 n_b61 n_b_67_3 (Ne.symm (Nat.ne_of_lt (Nat.lt_of_lt_of_le (Nat.lt_of_lt_of_le (Nat.lt_of_lt_of_le (Nat.lt_of_lt_of_le A_b43.lt (Keep.of_wr W53).1) (Keep.of_wr W60).1) E61.1) gb_67_3))) (Nat.ne_of_lt (Nat.lt_of_lt_of_le A61.lt gb_67_3)) (Ne.symm (Nat.ne_of_lt (Nat.lt_of_lt_of_le (Nat.lt_of_lt_of_le (Nat.lt_of_lt_of_le A_b43.lt (Keep.of_wr W53).1) (Keep.of_wr W60).1) (Nat.le_of_eq g61.symm)))) (own_d00) (Nat.le_trans (show (0 : Int).natAbs ≤ 0 by decide) (by decide)) (own_d00) (Nat.le_trans (show (0 : Int).natAbs ≤ 0 by decide) (by decide)) (hd52) (hm52) (hd59) (hm59)) (wd17 hw) (wd4 hw) e67_3 (by rw [hml]; rfl) (argsL := [(.ref b43), (.int p3), (.long p5)]) (rest := []) (W := 0) pd2 rfl rfl rfl rfl (hb hby at_79) (by decide) (by decide) (by decide) (by decide) (cells' := 3) (slots' := 6) rfl rfl rfl fun v79_3 T79_3 h79_3 Lc79_3 X79_3 e79_3 hq79_3 => ?_
    obtain ⟨x0_79_2, x1_79, rfl, N79q_3, K79_3, qE_79_3, qF_79_5, qF_79_6, qA_79_3, hx0_79_2, hx1_79⟩ := hq79_3
    have N79_3 := Fr.app N67_3 N79q_3
    have KK79_3_h0 : Keep h0 h79_3 [] := KK67_3_h0.trans K79_3 (allS (Or.inr s_b61_h0) (allS (Or.inr s_b_67_3_h0) all0))
    have OK79_3 : Old Z n0 h79_3 := OK67_3.keep K79_3 (allS n_b61 (allS n_b_67_3 all0))
    show Goes p.tables e below (Ends s (Q0 Z p0 p1 p2 p3 p4 p5 h0 n0) room_1.cells room_1.slots) (T79_3.setTop (mkF m 82 #[.val (.int p0), .val (.int p1), .val (.int p2), .val (.int p3), .val (.int p4), .val (.long p5), .second, .val (.int (2 : Int32)), .val (.int (p1 % (1000 : Int32))), .val (.int (p2 % (1000 : Int32))), .val (.long z40), .second, .val (.ref b43), .val (.ref b61), .unset, .unset, .unset, .unset, .unset, .unset, .unset] []))
    refine o_aload X79_3 hx (hb hby at_82) rfl rfl rfl ?_
    refine o_aload X79_3 hx (hb hby at_84) rfl rfl rfl ?_
    refine o_iload X79_3 hx (hb hby at_86) rfl rfl ?_
    refine o_lload X79_3 hx (hb hby at_88) rfl rfl ?_
    have fA90_3 : Arv Z h79_3 b43 k43 .double (2 : Int32) [(.double d52), (.double d59)] (.double 0) := (fA79_3.keep K79_3 (ninS (Nat.ne_of_lt (Nat.lt_of_lt_of_le (Nat.lt_of_lt_of_le (Nat.lt_of_lt_of_le A_b43.lt (Keep.of_wr W53).1) (Keep.of_wr W60).1) (Nat.le_of_eq g61.symm))) (ninS (Nat.ne_of_lt (Nat.lt_of_lt_of_le (Nat.lt_of_lt_of_le (Nat.lt_of_lt_of_le (Nat.lt_of_lt_of_le A_b43.lt (Keep.of_wr W53).1) (Keep.of_wr W60).1) E61.1) gb_67_3)) nin0)))
    refine o_virtual X79_3 hx hZ (C := "com/example/rillgraph/rillgraph/core/model/Aggregator$Change") hown (wd13 hw) (wd14 hw) (notFace_of_selects (args := #[]) (mvT hZ (wd16 hw))) (wd16 hw) (wd15 hw) (by decide) qE_79_3 (rmadd2 l Z a0 hw b61 b_67_3 b43 k_67_3 k43 p4 z40 (((0 : Int64) + p5)) x0_79_2 x1_79 d52 d59 ((0 + (p3.toInt * (p1 % (1000 : Int32)).toInt))) ((0 + (p3.toInt * (p2 % (1000 : Int32)).toInt))) ((p1 % (1000 : Int32)).toInt) ((p2 % (1000 : Int32)).toInt) h79_3 n0 OK79_3 qE_79_3 qF_79_5 qF_79_6 qA_79_3 fA90_3 n_b61 n_b_67_3 (Ne.symm (Nat.ne_of_lt (Nat.lt_of_lt_of_le (Nat.lt_of_lt_of_le (Nat.lt_of_lt_of_le (Nat.lt_of_lt_of_le A_b43.lt (Keep.of_wr W53).1) (Keep.of_wr W60).1) E61.1) gb_67_3))) (Nat.ne_of_lt (Nat.lt_of_lt_of_le A61.lt gb_67_3)) (Ne.symm (Nat.ne_of_lt (Nat.lt_of_lt_of_le (Nat.lt_of_lt_of_le (Nat.lt_of_lt_of_le A_b43.lt (Keep.of_wr W53).1) (Keep.of_wr W60).1) (Nat.le_of_eq g61.symm)))) (hx0_79_2) (Nat.le_trans (own_addb (show (0 : Int).natAbs ≤ 0 by decide) (own_mulb (own_i32b p3) own_r1000 rfl) rfl) (by decide)) (hx1_79) (Nat.le_trans (own_addb (show (0 : Int).natAbs ≤ 0 by decide) (own_mulb (own_i32b p3) own_r1000 rfl) rfl) (by decide)) (hd52) (hm52) (hd59) (hm59)) (wd17 hw) (wd4 hw) e79_3 (by rw [hml]; rfl) (argsL := [(.ref b43), (.int p4), (.long z40)]) (rest := []) (W := 0) pd2 rfl rfl rfl rfl (hb hby at_90) (by decide) (by decide) (by decide) (by decide) (cells' := 3) (slots' := 6) rfl rfl rfl fun v90_3 T90_3 h90_3 Lc90_3 X90_3 e90_3 hq90_3 => ?_
    obtain ⟨x0_90_2, x1_90, rfl, N90q_3, K90_3, qE_90_3, qF_90_5, qF_90_6, qA_90_3, hx0_90_2, hx1_90⟩ := hq90_3
    have N90_3 := Fr.app N79_3 N90q_3
    have KK90_3_h0 : Keep h0 h90_3 [] := KK79_3_h0.trans K90_3 (allS (Or.inr s_b61_h0) (allS (Or.inr s_b_67_3_h0) all0))
    have OK90_3 : Old Z n0 h90_3 := OK79_3.keep K90_3 (allS n_b61 (allS n_b_67_3 all0))
    show Goes p.tables e below (Ends s (Q0 Z p0 p1 p2 p3 p4 p5 h0 n0) room_1.cells room_1.slots) (T90_3.setTop (mkF m 93 #[.val (.int p0), .val (.int p1), .val (.int p2), .val (.int p3), .val (.int p4), .val (.long p5), .second, .val (.int (2 : Int32)), .val (.int (p1 % (1000 : Int32))), .val (.int (p2 % (1000 : Int32))), .val (.long z40), .second, .val (.ref b43), .val (.ref b61), .unset, .unset, .unset, .unset, .unset, .unset, .unset] []))
    refine o_aload X90_3 hx (hb hby at_93) rfl rfl rfl ?_
    refine o_virtual X90_3 hx hZ (C := "com/example/rillgraph/rillgraph/core/model/Aggregator$Change") hown (wd24 hw) (wd25 hw) (notFace_of_selects (args := #[]) (mvT hZ (wd27 hw))) (wd27 hw) (wd26 hw) (by decide) qE_90_3 (rmchg2 l Z a0 hw b61 b_67_3 k_67_3 ((((0 : Int64) + p5) + z40)) x0_90_2 x1_90 (((0 + (p3.toInt * (p1 % (1000 : Int32)).toInt)) + (p4.toInt * (p1 % (1000 : Int32)).toInt))) (((0 + (p3.toInt * (p2 % (1000 : Int32)).toInt)) + (p4.toInt * (p2 % (1000 : Int32)).toInt))) h90_3 n0 OK90_3 qF_90_5 qF_90_6 qA_90_3 (hx0_90_2) ((own_addb (own_addb (show (0 : Int).natAbs ≤ 0 by decide) (own_mulb (own_i32b p3) own_r1000 rfl) rfl) (own_mulb (own_i32b p4) own_r1000 rfl) rfl)) (hx1_90) ((own_addb (own_addb (show (0 : Int).natAbs ≤ 0 by decide) (own_mulb (own_i32b p3) own_r1000 rfl) rfl) (own_mulb (own_i32b p4) own_r1000 rfl) rfl))) (wd28 hw) (wd4 hw) e90_3 (by rw [hml]; rfl) (argsL := []) (rest := []) (W := 0) pd3 rfl rfl rfl rfl (hb hby at_95) (by decide) (by decide) (by decide) (by decide) (cells' := 3) (slots' := 6) rfl rfl rfl fun v95_3 T95_3 h95_3 Lc95_3 X95_3 e95_5 hq95_3 => ?_
    obtain ⟨z_95_3, rfl, N95q_3, K95_3, hz_95_3⟩ := hq95_3
    have N95_3 := Fr.app N90_3 N95q_3
    have e95_6 : T95_3.heap = h90_3 := e95_5.trans K95_3
    show Goes p.tables e below (Ends s (Q0 Z p0 p1 p2 p3 p4 p5 h0 n0) room_1.cells room_1.slots) (T95_3.setTop (mkF m 98 #[.val (.int p0), .val (.int p1), .val (.int p2), .val (.int p3), .val (.int p4), .val (.long p5), .second, .val (.int (2 : Int32)), .val (.int (p1 % (1000 : Int32))), .val (.int (p2 % (1000 : Int32))), .val (.long z40), .second, .val (.ref b43), .val (.ref b61), .unset, .unset, .unset, .unset, .unset, .unset, .unset] [(.int z_95_3)]))
    refine o_istore X95_3 hx (hb hby at_98) (L' := #[.val (.int p0), .val (.int p1), .val (.int p2), .val (.int p3), .val (.int p4), .val (.long p5), .second, .val (.int (2 : Int32)), .val (.int (p1 % (1000 : Int32))), .val (.int (p2 % (1000 : Int32))), .val (.long z40), .second, .val (.ref b43), .val (.ref b61), .val (.int z_95_3), .unset, .unset, .unset, .unset, .unset, .unset]) rfl rfl ?_
    refine o_iloadN X95_3 hx (hb hby at_100) rfl rfl ?_
    refine o_i2l X95_3 hx (hb hby at_101) rfl ?_
    refine o_iload X95_3 hx (hb hby at_102) rfl rfl ?_
    refine o_i2l X95_3 hx (hb hby at_104) rfl ?_
    refine o_ladd X95_3 hx (hb hby at_105) rfl ?_
    refine o_lstore X95_3 hx (hb hby at_106) (L' := #[.val (.int p0), .val (.int p1), .val (.int p2), .val (.int p3), .val (.int p4), .val (.long p5), .second, .val (.int (2 : Int32)), .val (.int (p1 % (1000 : Int32))), .val (.int (p2 % (1000 : Int32))), .val (.long z40), .second, .val (.ref b43), .val (.ref b61), .val (.int z_95_3), .val (.long ((p3.toInt64) + (p4.toInt64))), .second, .unset, .unset, .unset, .unset]) rfl rfl ?_
    refine o_lload X95_3 hx (hb hby at_108) rfl rfl ?_
    refine o_lload X95_3 hx (hb hby at_110) rfl rfl ?_
    refine o_ladd X95_3 hx (hb hby at_112) rfl ?_
    refine o_lconst X95_3 hx (hb hby at_113) (v := (0 : Int64)) rfl rfl ?_
    refine o_lcmp X95_3 hx (hb hby at_114) rfl ?_
    by_cases hc115_3 : (p5 + z40) = (0 : Int64)
    ·
      refine o_ifYes X95_3 hx (hb hby at_115) ((if0 _ _).trans (teq ((lw_eq _ _).mpr hc115_3)).1) (by decide) (pc' := 122) (by decide) ?_
      refine o_iconst X95_3 hx (hb hby at_122) (v := (0 : Int32)) rfl rfl ?_
      refine o_istore X95_3 hx (hb hby at_123) (L' := #[.val (.int p0), .val (.int p1), .val (.int p2), .val (.int p3), .val (.int p4), .val (.long p5), .second, .val (.int (2 : Int32)), .val (.int (p1 % (1000 : Int32))), .val (.int (p2 % (1000 : Int32))), .val (.long z40), .second, .val (.ref b43), .val (.ref b61), .val (.int z_95_3), .val (.long ((p3.toInt64) + (p4.toInt64))), .second, .val (.int (0 : Int32)), .unset, .unset, .unset]) rfl rfl ?_
      refine o_iload X95_3 hx (hb hby at_125) rfl rfl ?_
      refine o_iconst X95_3 hx (hb hby at_127) (v := (1 : Int32)) rfl rfl ?_
      refine o_icmpNo X95_3 hx (hb hby at_128) (flt (by decide)).1 rfl ?_
      refine o_lload X95_3 hx (hb hby at_131) rfl rfl ?_
      refine o_iload X95_3 hx (hb hby at_133) rfl rfl ?_
      refine o_i2l X95_3 hx (hb hby at_135) rfl ?_
      refine o_lmul X95_3 hx (hb hby at_136) rfl ?_
      refine o_lconst X95_3 hx (hb hby at_137) (v := (0 : Int64)) rfl rfl ?_
      refine o_lcmp X95_3 hx (hb hby at_138) rfl ?_
      by_cases hc139_3 : (((p3.toInt64) + (p4.toInt64)) * ((p1 % (1000 : Int32)).toInt64)) = (0 : Int64)
      ·
        refine o_ifYes X95_3 hx (hb hby at_139) ((if0 _ _).trans (teq ((lw_eq _ _).mpr hc139_3)).1) (by decide) (pc' := 146) (by decide) ?_
        refine o_iconst X95_3 hx (hb hby at_146) (v := (0 : Int32)) rfl rfl ?_
        refine o_istore X95_3 hx (hb hby at_147) (L' := #[.val (.int p0), .val (.int p1), .val (.int p2), .val (.int p3), .val (.int p4), .val (.long p5), .second, .val (.int (2 : Int32)), .val (.int (p1 % (1000 : Int32))), .val (.int (p2 % (1000 : Int32))), .val (.long z40), .second, .val (.ref b43), .val (.ref b61), .val (.int z_95_3), .val (.long ((p3.toInt64) + (p4.toInt64))), .second, .val (.int (0 : Int32)), .val (.int (0 : Int32)), .unset, .unset]) rfl rfl ?_
        refine o_iload X95_3 hx (hb hby at_149) rfl rfl ?_
        refine o_iconst X95_3 hx (hb hby at_151) (v := (2 : Int32)) rfl rfl ?_
        refine o_icmpNo X95_3 hx (hb hby at_152) (flt (by decide)).1 rfl ?_
        refine o_lload X95_3 hx (hb hby at_155) rfl rfl ?_
        refine o_iload X95_3 hx (hb hby at_157) rfl rfl ?_
        refine o_i2l X95_3 hx (hb hby at_159) rfl ?_
        refine o_lmul X95_3 hx (hb hby at_160) rfl ?_
        refine o_lconst X95_3 hx (hb hby at_161) (v := (0 : Int64)) rfl rfl ?_
        refine o_lcmp X95_3 hx (hb hby at_162) rfl ?_
        by_cases hc163 : (((p3.toInt64) + (p4.toInt64)) * ((p2 % (1000 : Int32)).toInt64)) = (0 : Int64)
        ·
          refine o_ifYes X95_3 hx (hb hby at_163) ((if0 _ _).trans (teq ((lw_eq _ _).mpr hc163)).1) (by decide) (pc' := 170) (by decide) ?_
          refine o_iconst X95_3 hx (hb hby at_170) (v := (0 : Int32)) rfl rfl ?_
          refine o_istore X95_3 hx (hb hby at_171) (L' := #[.val (.int p0), .val (.int p1), .val (.int p2), .val (.int p3), .val (.int p4), .val (.long p5), .second, .val (.int (2 : Int32)), .val (.int (p1 % (1000 : Int32))), .val (.int (p2 % (1000 : Int32))), .val (.long z40), .second, .val (.ref b43), .val (.ref b61), .val (.int z_95_3), .val (.long ((p3.toInt64) + (p4.toInt64))), .second, .val (.int (0 : Int32)), .val (.int (0 : Int32)), .val (.int (0 : Int32)), .unset]) rfl rfl ?_
          refine o_iload X95_3 hx (hb hby at_173) rfl rfl ?_
          refine o_ifNo X95_3 hx (hb hby at_175) ((if0 _ _).trans (teq (by decide)).2) rfl ?_
          refine o_iload X95_3 hx (hb hby at_178) rfl rfl ?_
          refine o_ifNo X95_3 hx (hb hby at_180) ((if0 _ _).trans (teq (by decide)).2) rfl ?_
          refine o_iload X95_3 hx (hb hby at_183) rfl rfl ?_
          refine o_ifYes X95_3 hx (hb hby at_185) ((if0 _ _).trans (teq (by decide)).1) (by decide) (pc' := 192) (by decide) ?_
          refine o_iconst X95_3 hx (hb hby at_192) (v := (0 : Int32)) rfl rfl ?_
          refine o_istore X95_3 hx (hb hby at_193) (L' := #[.val (.int p0), .val (.int p1), .val (.int p2), .val (.int p3), .val (.int p4), .val (.long p5), .second, .val (.int (2 : Int32)), .val (.int (p1 % (1000 : Int32))), .val (.int (p2 % (1000 : Int32))), .val (.long z40), .second, .val (.ref b43), .val (.ref b61), .val (.int z_95_3), .val (.long ((p3.toInt64) + (p4.toInt64))), .second, .val (.int (0 : Int32)), .val (.int (0 : Int32)), .val (.int (0 : Int32)), .val (.int (0 : Int32))]) rfl rfl ?_
          refine o_iload X95_3 hx (hb hby at_195) rfl rfl ?_
          refine o_iload X95_3 hx (hb hby at_197) rfl rfl ?_
          have hc199_7 : z_95_3 = (0 : Int32) := own_n hz_95_3 (fun q => q.elim (fun h => h (own_cnt.mpr hc115_3)) (fun q => q.elim (fun h => h ((own_sum own_r1000).mp hc139_3)) (fun h => h ((own_sum own_r1000).mp hc163))))
          refine o_icmpNo X95_3 hx (hb hby at_199) (teq hc199_7).2 rfl ?_
          refine o_iconst X95_3 hx (hb hby at_202) (v := (1 : Int32)) rfl rfl ?_
          refine o_goto X95_3 hx (hb hby at_203) (by decide) (pc' := 207) (by decide) ?_
          exact o_ret X95_3 hx hlk (t := .boolean) hret rfl (Or.inl ⟨rfl, by decide, _, rfl⟩) (hb hby at_207) (by decide) (by decide) e95_6 ⟨rfl, N95_3, KK90_3_h0⟩
        ·
          refine o_ifNo X95_3 hx (hb hby at_163) ((if0 _ _).trans (feq (fun q => hc163 ((lw_eq _ _).mp q))).1) rfl ?_
          refine o_iconst X95_3 hx (hb hby at_166) (v := (1 : Int32)) rfl rfl ?_
          refine o_goto X95_3 hx (hb hby at_167) (by decide) (pc' := 171) (by decide) ?_
          refine o_istore X95_3 hx (hb hby at_171) (L' := #[.val (.int p0), .val (.int p1), .val (.int p2), .val (.int p3), .val (.int p4), .val (.long p5), .second, .val (.int (2 : Int32)), .val (.int (p1 % (1000 : Int32))), .val (.int (p2 % (1000 : Int32))), .val (.long z40), .second, .val (.ref b43), .val (.ref b61), .val (.int z_95_3), .val (.long ((p3.toInt64) + (p4.toInt64))), .second, .val (.int (0 : Int32)), .val (.int (0 : Int32)), .val (.int (1 : Int32)), .unset]) rfl rfl ?_
          refine o_iload X95_3 hx (hb hby at_173) rfl rfl ?_
          refine o_ifNo X95_3 hx (hb hby at_175) ((if0 _ _).trans (teq (by decide)).2) rfl ?_
          refine o_iload X95_3 hx (hb hby at_178) rfl rfl ?_
          refine o_ifNo X95_3 hx (hb hby at_180) ((if0 _ _).trans (teq (by decide)).2) rfl ?_
          refine o_iload X95_3 hx (hb hby at_183) rfl rfl ?_
          refine o_ifNo X95_3 hx (hb hby at_185) ((if0 _ _).trans (feq (by decide)).1) rfl ?_
          refine o_iconst X95_3 hx (hb hby at_188) (v := (1 : Int32)) rfl rfl ?_
          refine o_goto X95_3 hx (hb hby at_189) (by decide) (pc' := 193) (by decide) ?_
          refine o_istore X95_3 hx (hb hby at_193) (L' := #[.val (.int p0), .val (.int p1), .val (.int p2), .val (.int p3), .val (.int p4), .val (.long p5), .second, .val (.int (2 : Int32)), .val (.int (p1 % (1000 : Int32))), .val (.int (p2 % (1000 : Int32))), .val (.long z40), .second, .val (.ref b43), .val (.ref b61), .val (.int z_95_3), .val (.long ((p3.toInt64) + (p4.toInt64))), .second, .val (.int (0 : Int32)), .val (.int (0 : Int32)), .val (.int (1 : Int32)), .val (.int (1 : Int32))]) rfl rfl ?_
          refine o_iload X95_3 hx (hb hby at_195) rfl rfl ?_
          refine o_iload X95_3 hx (hb hby at_197) rfl rfl ?_
          have hc199_8 : z_95_3 = (1 : Int32) := own_y hz_95_3 (Or.inr (Or.inr (fun q => hc163 ((own_sum own_r1000).mpr q))))
          refine o_icmpNo X95_3 hx (hb hby at_199) (teq hc199_8).2 rfl ?_
          refine o_iconst X95_3 hx (hb hby at_202) (v := (1 : Int32)) rfl rfl ?_
          refine o_goto X95_3 hx (hb hby at_203) (by decide) (pc' := 207) (by decide) ?_
          exact o_ret X95_3 hx hlk (t := .boolean) hret rfl (Or.inl ⟨rfl, by decide, _, rfl⟩) (hb hby at_207) (by decide) (by decide) e95_6 ⟨rfl, N95_3, KK90_3_h0⟩
      ·
        refine o_ifNo X95_3 hx (hb hby at_139) ((if0 _ _).trans (feq (fun q => hc139_3 ((lw_eq _ _).mp q))).1) rfl ?_
        refine o_iconst X95_3 hx (hb hby at_142) (v := (1 : Int32)) rfl rfl ?_
        refine o_goto X95_3 hx (hb hby at_143) (by decide) (pc' := 147) (by decide) ?_
        refine o_istore X95_3 hx (hb hby at_147) (L' := #[.val (.int p0), .val (.int p1), .val (.int p2), .val (.int p3), .val (.int p4), .val (.long p5), .second, .val (.int (2 : Int32)), .val (.int (p1 % (1000 : Int32))), .val (.int (p2 % (1000 : Int32))), .val (.long z40), .second, .val (.ref b43), .val (.ref b61), .val (.int z_95_3), .val (.long ((p3.toInt64) + (p4.toInt64))), .second, .val (.int (0 : Int32)), .val (.int (1 : Int32)), .unset, .unset]) rfl rfl ?_
        refine o_iload X95_3 hx (hb hby at_149) rfl rfl ?_
        refine o_iconst X95_3 hx (hb hby at_151) (v := (2 : Int32)) rfl rfl ?_
        refine o_icmpNo X95_3 hx (hb hby at_152) (flt (by decide)).1 rfl ?_
        refine o_lload X95_3 hx (hb hby at_155) rfl rfl ?_
        refine o_iload X95_3 hx (hb hby at_157) rfl rfl ?_
        refine o_i2l X95_3 hx (hb hby at_159) rfl ?_
        refine o_lmul X95_3 hx (hb hby at_160) rfl ?_
        refine o_lconst X95_3 hx (hb hby at_161) (v := (0 : Int64)) rfl rfl ?_
        refine o_lcmp X95_3 hx (hb hby at_162) rfl ?_
        by_cases hc163_2 : (((p3.toInt64) + (p4.toInt64)) * ((p2 % (1000 : Int32)).toInt64)) = (0 : Int64)
        ·
          refine o_ifYes X95_3 hx (hb hby at_163) ((if0 _ _).trans (teq ((lw_eq _ _).mpr hc163_2)).1) (by decide) (pc' := 170) (by decide) ?_
          refine o_iconst X95_3 hx (hb hby at_170) (v := (0 : Int32)) rfl rfl ?_
          refine o_istore X95_3 hx (hb hby at_171) (L' := #[.val (.int p0), .val (.int p1), .val (.int p2), .val (.int p3), .val (.int p4), .val (.long p5), .second, .val (.int (2 : Int32)), .val (.int (p1 % (1000 : Int32))), .val (.int (p2 % (1000 : Int32))), .val (.long z40), .second, .val (.ref b43), .val (.ref b61), .val (.int z_95_3), .val (.long ((p3.toInt64) + (p4.toInt64))), .second, .val (.int (0 : Int32)), .val (.int (1 : Int32)), .val (.int (0 : Int32)), .unset]) rfl rfl ?_
          refine o_iload X95_3 hx (hb hby at_173) rfl rfl ?_
          refine o_ifNo X95_3 hx (hb hby at_175) ((if0 _ _).trans (teq (by decide)).2) rfl ?_
          refine o_iload X95_3 hx (hb hby at_178) rfl rfl ?_
          refine o_ifYes X95_3 hx (hb hby at_180) ((if0 _ _).trans (feq (by decide)).2) (by decide) (pc' := 188) (by decide) ?_
          refine o_iconst X95_3 hx (hb hby at_188) (v := (1 : Int32)) rfl rfl ?_
          refine o_goto X95_3 hx (hb hby at_189) (by decide) (pc' := 193) (by decide) ?_
          refine o_istore X95_3 hx (hb hby at_193) (L' := #[.val (.int p0), .val (.int p1), .val (.int p2), .val (.int p3), .val (.int p4), .val (.long p5), .second, .val (.int (2 : Int32)), .val (.int (p1 % (1000 : Int32))), .val (.int (p2 % (1000 : Int32))), .val (.long z40), .second, .val (.ref b43), .val (.ref b61), .val (.int z_95_3), .val (.long ((p3.toInt64) + (p4.toInt64))), .second, .val (.int (0 : Int32)), .val (.int (1 : Int32)), .val (.int (0 : Int32)), .val (.int (1 : Int32))]) rfl rfl ?_
          refine o_iload X95_3 hx (hb hby at_195) rfl rfl ?_
          refine o_iload X95_3 hx (hb hby at_197) rfl rfl ?_
          have hc199_9 : z_95_3 = (1 : Int32) := own_y hz_95_3 (Or.inr (Or.inl (fun q => hc139_3 ((own_sum own_r1000).mpr q))))
          refine o_icmpNo X95_3 hx (hb hby at_199) (teq hc199_9).2 rfl ?_
          refine o_iconst X95_3 hx (hb hby at_202) (v := (1 : Int32)) rfl rfl ?_
          refine o_goto X95_3 hx (hb hby at_203) (by decide) (pc' := 207) (by decide) ?_
          exact o_ret X95_3 hx hlk (t := .boolean) hret rfl (Or.inl ⟨rfl, by decide, _, rfl⟩) (hb hby at_207) (by decide) (by decide) e95_6 ⟨rfl, N95_3, KK90_3_h0⟩
        ·
          refine o_ifNo X95_3 hx (hb hby at_163) ((if0 _ _).trans (feq (fun q => hc163_2 ((lw_eq _ _).mp q))).1) rfl ?_
          refine o_iconst X95_3 hx (hb hby at_166) (v := (1 : Int32)) rfl rfl ?_
          refine o_goto X95_3 hx (hb hby at_167) (by decide) (pc' := 171) (by decide) ?_
          refine o_istore X95_3 hx (hb hby at_171) (L' := #[.val (.int p0), .val (.int p1), .val (.int p2), .val (.int p3), .val (.int p4), .val (.long p5), .second, .val (.int (2 : Int32)), .val (.int (p1 % (1000 : Int32))), .val (.int (p2 % (1000 : Int32))), .val (.long z40), .second, .val (.ref b43), .val (.ref b61), .val (.int z_95_3), .val (.long ((p3.toInt64) + (p4.toInt64))), .second, .val (.int (0 : Int32)), .val (.int (1 : Int32)), .val (.int (1 : Int32)), .unset]) rfl rfl ?_
          refine o_iload X95_3 hx (hb hby at_173) rfl rfl ?_
          refine o_ifNo X95_3 hx (hb hby at_175) ((if0 _ _).trans (teq (by decide)).2) rfl ?_
          refine o_iload X95_3 hx (hb hby at_178) rfl rfl ?_
          refine o_ifYes X95_3 hx (hb hby at_180) ((if0 _ _).trans (feq (by decide)).2) (by decide) (pc' := 188) (by decide) ?_
          refine o_iconst X95_3 hx (hb hby at_188) (v := (1 : Int32)) rfl rfl ?_
          refine o_goto X95_3 hx (hb hby at_189) (by decide) (pc' := 193) (by decide) ?_
          refine o_istore X95_3 hx (hb hby at_193) (L' := #[.val (.int p0), .val (.int p1), .val (.int p2), .val (.int p3), .val (.int p4), .val (.long p5), .second, .val (.int (2 : Int32)), .val (.int (p1 % (1000 : Int32))), .val (.int (p2 % (1000 : Int32))), .val (.long z40), .second, .val (.ref b43), .val (.ref b61), .val (.int z_95_3), .val (.long ((p3.toInt64) + (p4.toInt64))), .second, .val (.int (0 : Int32)), .val (.int (1 : Int32)), .val (.int (1 : Int32)), .val (.int (1 : Int32))]) rfl rfl ?_
          refine o_iload X95_3 hx (hb hby at_195) rfl rfl ?_
          refine o_iload X95_3 hx (hb hby at_197) rfl rfl ?_
          have hc199_10 : z_95_3 = (1 : Int32) := own_y hz_95_3 (Or.inr (Or.inl (fun q => hc139_3 ((own_sum own_r1000).mpr q))))
          refine o_icmpNo X95_3 hx (hb hby at_199) (teq hc199_10).2 rfl ?_
          refine o_iconst X95_3 hx (hb hby at_202) (v := (1 : Int32)) rfl rfl ?_
          refine o_goto X95_3 hx (hb hby at_203) (by decide) (pc' := 207) (by decide) ?_
          exact o_ret X95_3 hx hlk (t := .boolean) hret rfl (Or.inl ⟨rfl, by decide, _, rfl⟩) (hb hby at_207) (by decide) (by decide) e95_6 ⟨rfl, N95_3, KK90_3_h0⟩
    ·
      refine o_ifNo X95_3 hx (hb hby at_115) ((if0 _ _).trans (feq (fun q => hc115_3 ((lw_eq _ _).mp q))).1) rfl ?_
      refine o_iconst X95_3 hx (hb hby at_118) (v := (1 : Int32)) rfl rfl ?_
      refine o_goto X95_3 hx (hb hby at_119) (by decide) (pc' := 123) (by decide) ?_
      refine o_istore X95_3 hx (hb hby at_123) (L' := #[.val (.int p0), .val (.int p1), .val (.int p2), .val (.int p3), .val (.int p4), .val (.long p5), .second, .val (.int (2 : Int32)), .val (.int (p1 % (1000 : Int32))), .val (.int (p2 % (1000 : Int32))), .val (.long z40), .second, .val (.ref b43), .val (.ref b61), .val (.int z_95_3), .val (.long ((p3.toInt64) + (p4.toInt64))), .second, .val (.int (1 : Int32)), .unset, .unset, .unset]) rfl rfl ?_
      refine o_iload X95_3 hx (hb hby at_125) rfl rfl ?_
      refine o_iconst X95_3 hx (hb hby at_127) (v := (1 : Int32)) rfl rfl ?_
      refine o_icmpNo X95_3 hx (hb hby at_128) (flt (by decide)).1 rfl ?_
      refine o_lload X95_3 hx (hb hby at_131) rfl rfl ?_
      refine o_iload X95_3 hx (hb hby at_133) rfl rfl ?_
      refine o_i2l X95_3 hx (hb hby at_135) rfl ?_
      refine o_lmul X95_3 hx (hb hby at_136) rfl ?_
      refine o_lconst X95_3 hx (hb hby at_137) (v := (0 : Int64)) rfl rfl ?_
      refine o_lcmp X95_3 hx (hb hby at_138) rfl ?_
      by_cases hc139_4 : (((p3.toInt64) + (p4.toInt64)) * ((p1 % (1000 : Int32)).toInt64)) = (0 : Int64)
      ·
        refine o_ifYes X95_3 hx (hb hby at_139) ((if0 _ _).trans (teq ((lw_eq _ _).mpr hc139_4)).1) (by decide) (pc' := 146) (by decide) ?_
        refine o_iconst X95_3 hx (hb hby at_146) (v := (0 : Int32)) rfl rfl ?_
        refine o_istore X95_3 hx (hb hby at_147) (L' := #[.val (.int p0), .val (.int p1), .val (.int p2), .val (.int p3), .val (.int p4), .val (.long p5), .second, .val (.int (2 : Int32)), .val (.int (p1 % (1000 : Int32))), .val (.int (p2 % (1000 : Int32))), .val (.long z40), .second, .val (.ref b43), .val (.ref b61), .val (.int z_95_3), .val (.long ((p3.toInt64) + (p4.toInt64))), .second, .val (.int (1 : Int32)), .val (.int (0 : Int32)), .unset, .unset]) rfl rfl ?_
        refine o_iload X95_3 hx (hb hby at_149) rfl rfl ?_
        refine o_iconst X95_3 hx (hb hby at_151) (v := (2 : Int32)) rfl rfl ?_
        refine o_icmpNo X95_3 hx (hb hby at_152) (flt (by decide)).1 rfl ?_
        refine o_lload X95_3 hx (hb hby at_155) rfl rfl ?_
        refine o_iload X95_3 hx (hb hby at_157) rfl rfl ?_
        refine o_i2l X95_3 hx (hb hby at_159) rfl ?_
        refine o_lmul X95_3 hx (hb hby at_160) rfl ?_
        refine o_lconst X95_3 hx (hb hby at_161) (v := (0 : Int64)) rfl rfl ?_
        refine o_lcmp X95_3 hx (hb hby at_162) rfl ?_
        by_cases hc163_3 : (((p3.toInt64) + (p4.toInt64)) * ((p2 % (1000 : Int32)).toInt64)) = (0 : Int64)
        ·
          refine o_ifYes X95_3 hx (hb hby at_163) ((if0 _ _).trans (teq ((lw_eq _ _).mpr hc163_3)).1) (by decide) (pc' := 170) (by decide) ?_
          refine o_iconst X95_3 hx (hb hby at_170) (v := (0 : Int32)) rfl rfl ?_
          refine o_istore X95_3 hx (hb hby at_171) (L' := #[.val (.int p0), .val (.int p1), .val (.int p2), .val (.int p3), .val (.int p4), .val (.long p5), .second, .val (.int (2 : Int32)), .val (.int (p1 % (1000 : Int32))), .val (.int (p2 % (1000 : Int32))), .val (.long z40), .second, .val (.ref b43), .val (.ref b61), .val (.int z_95_3), .val (.long ((p3.toInt64) + (p4.toInt64))), .second, .val (.int (1 : Int32)), .val (.int (0 : Int32)), .val (.int (0 : Int32)), .unset]) rfl rfl ?_
          refine o_iload X95_3 hx (hb hby at_173) rfl rfl ?_
          refine o_ifYes X95_3 hx (hb hby at_175) ((if0 _ _).trans (feq (by decide)).2) (by decide) (pc' := 188) (by decide) ?_
          refine o_iconst X95_3 hx (hb hby at_188) (v := (1 : Int32)) rfl rfl ?_
          refine o_goto X95_3 hx (hb hby at_189) (by decide) (pc' := 193) (by decide) ?_
          refine o_istore X95_3 hx (hb hby at_193) (L' := #[.val (.int p0), .val (.int p1), .val (.int p2), .val (.int p3), .val (.int p4), .val (.long p5), .second, .val (.int (2 : Int32)), .val (.int (p1 % (1000 : Int32))), .val (.int (p2 % (1000 : Int32))), .val (.long z40), .second, .val (.ref b43), .val (.ref b61), .val (.int z_95_3), .val (.long ((p3.toInt64) + (p4.toInt64))), .second, .val (.int (1 : Int32)), .val (.int (0 : Int32)), .val (.int (0 : Int32)), .val (.int (1 : Int32))]) rfl rfl ?_
          refine o_iload X95_3 hx (hb hby at_195) rfl rfl ?_
          refine o_iload X95_3 hx (hb hby at_197) rfl rfl ?_
          have hc199_11 : z_95_3 = (1 : Int32) := own_y hz_95_3 (Or.inl (fun q => hc115_3 (own_cnt.mp q)))
          refine o_icmpNo X95_3 hx (hb hby at_199) (teq hc199_11).2 rfl ?_
          refine o_iconst X95_3 hx (hb hby at_202) (v := (1 : Int32)) rfl rfl ?_
          refine o_goto X95_3 hx (hb hby at_203) (by decide) (pc' := 207) (by decide) ?_
          exact o_ret X95_3 hx hlk (t := .boolean) hret rfl (Or.inl ⟨rfl, by decide, _, rfl⟩) (hb hby at_207) (by decide) (by decide) e95_6 ⟨rfl, N95_3, KK90_3_h0⟩
        ·
          refine o_ifNo X95_3 hx (hb hby at_163) ((if0 _ _).trans (feq (fun q => hc163_3 ((lw_eq _ _).mp q))).1) rfl ?_
          refine o_iconst X95_3 hx (hb hby at_166) (v := (1 : Int32)) rfl rfl ?_
          refine o_goto X95_3 hx (hb hby at_167) (by decide) (pc' := 171) (by decide) ?_
          refine o_istore X95_3 hx (hb hby at_171) (L' := #[.val (.int p0), .val (.int p1), .val (.int p2), .val (.int p3), .val (.int p4), .val (.long p5), .second, .val (.int (2 : Int32)), .val (.int (p1 % (1000 : Int32))), .val (.int (p2 % (1000 : Int32))), .val (.long z40), .second, .val (.ref b43), .val (.ref b61), .val (.int z_95_3), .val (.long ((p3.toInt64) + (p4.toInt64))), .second, .val (.int (1 : Int32)), .val (.int (0 : Int32)), .val (.int (1 : Int32)), .unset]) rfl rfl ?_
          refine o_iload X95_3 hx (hb hby at_173) rfl rfl ?_
          refine o_ifYes X95_3 hx (hb hby at_175) ((if0 _ _).trans (feq (by decide)).2) (by decide) (pc' := 188) (by decide) ?_
          refine o_iconst X95_3 hx (hb hby at_188) (v := (1 : Int32)) rfl rfl ?_
          refine o_goto X95_3 hx (hb hby at_189) (by decide) (pc' := 193) (by decide) ?_
          refine o_istore X95_3 hx (hb hby at_193) (L' := #[.val (.int p0), .val (.int p1), .val (.int p2), .val (.int p3), .val (.int p4), .val (.long p5), .second, .val (.int (2 : Int32)), .val (.int (p1 % (1000 : Int32))), .val (.int (p2 % (1000 : Int32))), .val (.long z40), .second, .val (.ref b43), .val (.ref b61), .val (.int z_95_3), .val (.long ((p3.toInt64) + (p4.toInt64))), .second, .val (.int (1 : Int32)), .val (.int (0 : Int32)), .val (.int (1 : Int32)), .val (.int (1 : Int32))]) rfl rfl ?_
          refine o_iload X95_3 hx (hb hby at_195) rfl rfl ?_
          refine o_iload X95_3 hx (hb hby at_197) rfl rfl ?_
          have hc199_12 : z_95_3 = (1 : Int32) := own_y hz_95_3 (Or.inl (fun q => hc115_3 (own_cnt.mp q)))
          refine o_icmpNo X95_3 hx (hb hby at_199) (teq hc199_12).2 rfl ?_
          refine o_iconst X95_3 hx (hb hby at_202) (v := (1 : Int32)) rfl rfl ?_
          refine o_goto X95_3 hx (hb hby at_203) (by decide) (pc' := 207) (by decide) ?_
          exact o_ret X95_3 hx hlk (t := .boolean) hret rfl (Or.inl ⟨rfl, by decide, _, rfl⟩) (hb hby at_207) (by decide) (by decide) e95_6 ⟨rfl, N95_3, KK90_3_h0⟩
      ·
        refine o_ifNo X95_3 hx (hb hby at_139) ((if0 _ _).trans (feq (fun q => hc139_4 ((lw_eq _ _).mp q))).1) rfl ?_
        refine o_iconst X95_3 hx (hb hby at_142) (v := (1 : Int32)) rfl rfl ?_
        refine o_goto X95_3 hx (hb hby at_143) (by decide) (pc' := 147) (by decide) ?_
        refine o_istore X95_3 hx (hb hby at_147) (L' := #[.val (.int p0), .val (.int p1), .val (.int p2), .val (.int p3), .val (.int p4), .val (.long p5), .second, .val (.int (2 : Int32)), .val (.int (p1 % (1000 : Int32))), .val (.int (p2 % (1000 : Int32))), .val (.long z40), .second, .val (.ref b43), .val (.ref b61), .val (.int z_95_3), .val (.long ((p3.toInt64) + (p4.toInt64))), .second, .val (.int (1 : Int32)), .val (.int (1 : Int32)), .unset, .unset]) rfl rfl ?_
        refine o_iload X95_3 hx (hb hby at_149) rfl rfl ?_
        refine o_iconst X95_3 hx (hb hby at_151) (v := (2 : Int32)) rfl rfl ?_
        refine o_icmpNo X95_3 hx (hb hby at_152) (flt (by decide)).1 rfl ?_
        refine o_lload X95_3 hx (hb hby at_155) rfl rfl ?_
        refine o_iload X95_3 hx (hb hby at_157) rfl rfl ?_
        refine o_i2l X95_3 hx (hb hby at_159) rfl ?_
        refine o_lmul X95_3 hx (hb hby at_160) rfl ?_
        refine o_lconst X95_3 hx (hb hby at_161) (v := (0 : Int64)) rfl rfl ?_
        refine o_lcmp X95_3 hx (hb hby at_162) rfl ?_
        by_cases hc163_4 : (((p3.toInt64) + (p4.toInt64)) * ((p2 % (1000 : Int32)).toInt64)) = (0 : Int64)
        ·
          refine o_ifYes X95_3 hx (hb hby at_163) ((if0 _ _).trans (teq ((lw_eq _ _).mpr hc163_4)).1) (by decide) (pc' := 170) (by decide) ?_
          refine o_iconst X95_3 hx (hb hby at_170) (v := (0 : Int32)) rfl rfl ?_
          refine o_istore X95_3 hx (hb hby at_171) (L' := #[.val (.int p0), .val (.int p1), .val (.int p2), .val (.int p3), .val (.int p4), .val (.long p5), .second, .val (.int (2 : Int32)), .val (.int (p1 % (1000 : Int32))), .val (.int (p2 % (1000 : Int32))), .val (.long z40), .second, .val (.ref b43), .val (.ref b61), .val (.int z_95_3), .val (.long ((p3.toInt64) + (p4.toInt64))), .second, .val (.int (1 : Int32)), .val (.int (1 : Int32)), .val (.int (0 : Int32)), .unset]) rfl rfl ?_
          refine o_iload X95_3 hx (hb hby at_173) rfl rfl ?_
          refine o_ifYes X95_3 hx (hb hby at_175) ((if0 _ _).trans (feq (by decide)).2) (by decide) (pc' := 188) (by decide) ?_
          refine o_iconst X95_3 hx (hb hby at_188) (v := (1 : Int32)) rfl rfl ?_
          refine o_goto X95_3 hx (hb hby at_189) (by decide) (pc' := 193) (by decide) ?_
          refine o_istore X95_3 hx (hb hby at_193) (L' := #[.val (.int p0), .val (.int p1), .val (.int p2), .val (.int p3), .val (.int p4), .val (.long p5), .second, .val (.int (2 : Int32)), .val (.int (p1 % (1000 : Int32))), .val (.int (p2 % (1000 : Int32))), .val (.long z40), .second, .val (.ref b43), .val (.ref b61), .val (.int z_95_3), .val (.long ((p3.toInt64) + (p4.toInt64))), .second, .val (.int (1 : Int32)), .val (.int (1 : Int32)), .val (.int (0 : Int32)), .val (.int (1 : Int32))]) rfl rfl ?_
          refine o_iload X95_3 hx (hb hby at_195) rfl rfl ?_
          refine o_iload X95_3 hx (hb hby at_197) rfl rfl ?_
          have hc199_13 : z_95_3 = (1 : Int32) := own_y hz_95_3 (Or.inl (fun q => hc115_3 (own_cnt.mp q)))
          refine o_icmpNo X95_3 hx (hb hby at_199) (teq hc199_13).2 rfl ?_
          refine o_iconst X95_3 hx (hb hby at_202) (v := (1 : Int32)) rfl rfl ?_
          refine o_goto X95_3 hx (hb hby at_203) (by decide) (pc' := 207) (by decide) ?_
          exact o_ret X95_3 hx hlk (t := .boolean) hret rfl (Or.inl ⟨rfl, by decide, _, rfl⟩) (hb hby at_207) (by decide) (by decide) e95_6 ⟨rfl, N95_3, KK90_3_h0⟩
        ·
          refine o_ifNo X95_3 hx (hb hby at_163) ((if0 _ _).trans (feq (fun q => hc163_4 ((lw_eq _ _).mp q))).1) rfl ?_
          refine o_iconst X95_3 hx (hb hby at_166) (v := (1 : Int32)) rfl rfl ?_
          refine o_goto X95_3 hx (hb hby at_167) (by decide) (pc' := 171) (by decide) ?_
          refine o_istore X95_3 hx (hb hby at_171) (L' := #[.val (.int p0), .val (.int p1), .val (.int p2), .val (.int p3), .val (.int p4), .val (.long p5), .second, .val (.int (2 : Int32)), .val (.int (p1 % (1000 : Int32))), .val (.int (p2 % (1000 : Int32))), .val (.long z40), .second, .val (.ref b43), .val (.ref b61), .val (.int z_95_3), .val (.long ((p3.toInt64) + (p4.toInt64))), .second, .val (.int (1 : Int32)), .val (.int (1 : Int32)), .val (.int (1 : Int32)), .unset]) rfl rfl ?_
          refine o_iload X95_3 hx (hb hby at_173) rfl rfl ?_
          refine o_ifYes X95_3 hx (hb hby at_175) ((if0 _ _).trans (feq (by decide)).2) (by decide) (pc' := 188) (by decide) ?_
          refine o_iconst X95_3 hx (hb hby at_188) (v := (1 : Int32)) rfl rfl ?_
          refine o_goto X95_3 hx (hb hby at_189) (by decide) (pc' := 193) (by decide) ?_
          refine o_istore X95_3 hx (hb hby at_193) (L' := #[.val (.int p0), .val (.int p1), .val (.int p2), .val (.int p3), .val (.int p4), .val (.long p5), .second, .val (.int (2 : Int32)), .val (.int (p1 % (1000 : Int32))), .val (.int (p2 % (1000 : Int32))), .val (.long z40), .second, .val (.ref b43), .val (.ref b61), .val (.int z_95_3), .val (.long ((p3.toInt64) + (p4.toInt64))), .second, .val (.int (1 : Int32)), .val (.int (1 : Int32)), .val (.int (1 : Int32)), .val (.int (1 : Int32))]) rfl rfl ?_
          refine o_iload X95_3 hx (hb hby at_195) rfl rfl ?_
          refine o_iload X95_3 hx (hb hby at_197) rfl rfl ?_
          have hc199_14 : z_95_3 = (1 : Int32) := own_y hz_95_3 (Or.inl (fun q => hc115_3 (own_cnt.mp q)))
          refine o_icmpNo X95_3 hx (hb hby at_199) (teq hc199_14).2 rfl ?_
          refine o_iconst X95_3 hx (hb hby at_202) (v := (1 : Int32)) rfl rfl ?_
          refine o_goto X95_3 hx (hb hby at_203) (by decide) (pc' := 207) (by decide) ?_
          exact o_ret X95_3 hx hlk (t := .boolean) hret rfl (Or.inl ⟨rfl, by decide, _, rfl⟩) (hb hby at_207) (by decide) (by decide) e95_6 ⟨rfl, N95_3, KK90_3_h0⟩
set_option maxRecDepth 65536 in
set_option maxHeartbeats 40000000 in
theorem comes_1 {Post : Tables → Env → Array Value → State → Outcome → State → Prop} (hpost : ∀ tb e args s v u, (limb_1_1.after args s (.returned v) u = true ∧ limb_1_2.after args s (.returned v) u = true ∧ True) → FrameEnd s (.returned v) u (Jvm.fieldLocs frame_1_writes args s ++ Jvm.arrayLocs frame_1_arrays args s ++ Jvm.staticLocs frame_1_statics s) 16 128 → Post tb e args s (.returned v) u) :
    ArmFor flags0 classFile x code maxLocals ret World_1 tables_1 room_1 Calls_1 rest_1 Pre_1 Post := by
  intro l hfl _ _ p e ha hc hk s m args below hf hA hF happ hP
  obtain ⟨hcalls, hrest, hpre⟩ := hP
  obtain ⟨-, -, -, hnamed, -, -, -, hat⟩ := (Spec.applies_iff hf).mp happ
  obtain ⟨hg, hn⟩ := and_e (Cond.before_iff.mp (show (Jvm.Cond.and given_1 narrow_1).before args s = true from hpre))
  obtain ⟨u1a, u1b⟩ := and_e hg
  obtain ⟨u2a, u2b⟩ := and_e u1b
  obtain ⟨u3a, u3b⟩ := and_e u2b
  obtain ⟨u4a, u4b⟩ := and_e u3b
  obtain ⟨u5a, u5b⟩ := and_e u4b
  obtain ⟨u6a, u6b⟩ := and_e u5b
  obtain ⟨w0, w1, w2, w3, w4, w5, rfl⟩ : ∃ w0 w1 w2 w3 w4 w5 : Value, args = #[w0, w1, w2, w3, w4, w5] := by
    have hs : args.size = 6 := by simpa [Cond.value, given_1] using u1a
    obtain ⟨L⟩ := args
    match L, hs with
    | [w0, w1, w2, w3, w4, w5], _ => exact ⟨w0, w1, w2, w3, w4, w5, rfl⟩
  have hw := fun d (hd : d ∈ tables_1) => atoms_spec (ws := Jvm.Cond.code x code maxLocals ret :: tables_1) hat d (List.mem_cons_of_mem _ hd)
  have hfit : Fit s := fun {y c} hc i hi => by
    obtain ⟨ha, rfl⟩ := Array.getElem?_eq_some_iff.mp hc
    have q := List.all_eq_true.mp ((Array.all_eq_true_iff_forall_mem.mp hF) _ (Array.getElem_mem ha)) i (List.mem_range.mpr hi)
    simpa [Array.getElem?_eq_getElem hi] using q
  obtain ⟨i0, ei0⟩ := is_v u2a
  obtain rfl : w0 = (.int i0) := Option.some.inj ei0
  obtain ⟨i1, ei1⟩ := is_v u3a
  obtain rfl : w1 = (.int i1) := Option.some.inj ei1
  obtain ⟨i2, ei2⟩ := is_v u4a
  obtain rfl : w2 = (.int i2) := Option.some.inj ei2
  obtain ⟨i3, ei3⟩ := is_v u5a
  obtain rfl : w3 = (.int i3) := Option.some.inj ei3
  obtain ⟨i4, ei4⟩ := is_v u6a
  obtain rfl : w4 = (.int i4) := Option.some.inj ei4
  obtain ⟨i5, ei5⟩ := isL_v u6b
  obtain rfl : w5 = (.long i5) := Option.some.inj ei5
  obtain ⟨n, o, h1, h2, h3, _, L, rfl, ⟨rfl, N, -⟩, hq⟩ := rm0 l s _ hw tables_1 i0 i1 i2 i3 i4 i5 s.heap s.heap.size (Old.start s)  p e ha hc hk s m _ below hf ((Spec.applies_iff_loose hf).mp happ).1 ⟨rfl, State.Warmed39.refl s, rfl⟩ trivial
  refine ⟨n, _, h1, h2, h3, hpost _ _ _ _ _ _ ⟨Cond.after_iff.mpr rfl, Cond.after_iff.mpr (eq_i res_at (Term.int_eval (1)) rfl), trivial⟩ ⟨hq.1, hq.2.1, (hq.2.2.sift fun y hy => Or.inr (N y hy)).mono (by decide) (by decide)⟩⟩
theorem main_1_1 : Claimed_1_1 := comes_1 fun _ _ _ _ _ _ h hF => ⟨h.1, hF⟩
theorem main_1_2 : Claimed_1_2 := comes_1 fun _ _ _ _ _ _ h hF => ⟨h.2.1, hF⟩
end Jvm.Pilot.@@N@@
namespace Jvm.Pilot.@@N@@
open Jvm Jvm.ClassFile Sem Op Lib Jvm.Free Jvm.Stand Jvm.Pilot.@@N@@.Jvm.D
/-! MADE BY PROGRAM (witnessworld.py) out of the Statement's table words and the real class files: 10 classes; the members and pool entries that the words name. The judged class is class 1, her method 1. -/
namespace start1
open Jvm.ClassFile
def u (s : String) : CpInfo := .utf8 (stringToUtf16 s)
/-- a pool by its gaps: so many unusable entries, then the entry; so many at the end -/
def gap : Nat → List CpInfo → List CpInfo
  | 0, r => r
  | n + 1, r => .unusable :: gap n r
def poolList (es : List (Nat × CpInfo)) (last : Nat) : List CpInfo := es.foldr (fun e r => gap e.1 (e.2 :: r)) (gap last [])
def pool (es : List (Nat × CpInfo)) (last : Nat) : Array CpInfo := ⟨poolList es last⟩
def fileOf (pool : Array CpInfo) (this : Nat) (attrs : Array Attribute := #[]) (ms : Array MethodInfo := #[]) (fl : Nat := 33) (sup : Nat := 0) (ifs : Array Nat := #[]) (fds : Array FieldInfo := #[]) : ClassFile where
  minorVersion := 0
  majorVersion := 65
  constantPool := pool
  accessFlags := fl
  thisClass := this
  superClass := sup
  interfaces := ifs
  fields := fds
  methods := ms
  attributes := attrs
def plain (name : String) (sup : Option ClassId) : Class where
  name := name
  kind := .ordinary
  loader := none
  accessFlags := 33
  super := sup
  interfaces := #[]
  cf := none
  fields := #[]
  methods := #[]
  instanceTypes := #[]
  staticTypes := #[]
  resolved := #[]
  callSites := []
  init := .initialized
  statics := none
  mirror := none

def pool0 : Array CpInfo := pool [(5, u "<init>"), (0, u "()V"), (1, .class_ 10), (1, u "java/lang/Object")] 113

def k0c0 : Code := { maxStack := 0, maxLocals := 1, code := object_method_1_code, exceptionTable := #[], attributes := #[] }
def k0m0 : Method := { name := "<init>", desc := "()V", sig := { parameters := [], returnType := none }, accessFlags := 1, code := some k0c0 }
/-- java/lang/Object -/
def k0 : Class := { plain "java/lang/Object" none with
  accessFlags := 33
  interfaces := #[]
  cf := some (fileOf pool0 8 #[] #[{ accessFlags := 1, nameIndex := 5, descriptorIndex := 6, attributes := #[] }] 33 0 #[] #[])
  fields := #[]
  methods := #[k0m0]
  instanceTypes := #[]
  staticTypes := #[]
  resolved := Array.replicate 124 none
  statics := none }

def pool1 : Array CpInfo := pool [(2, .class_ 4), (1, u "java/lang/Object"), (0, u "<init>"), (0, u "()V"), (0, .integer 2147483647), (0, .class_ 9), (0, u "com/example/rillgraph/rillgraph/core/model/Aggregator$Change"), (0, .methodref 8 11), (0, .nameAndType 5 12), (0, u "(I)V"), (0, .methodref 8 14), (0, .nameAndType 15 16), (0, u "add"), (0, u "([DIJ)V"), (0, .methodref 8 18), (0, .nameAndType 19 20), (0, u "changes"), (0, u "()Z"), (0, .class_ 22), (0, u "com/example/rillgraph/rillgraph/core/model/ChangeChangesPinLaw"), (2, u "law"), (0, u "(IIIIIJ)Z")] 9

def k1m0 : Method := { name := "<init>", desc := "()V", sig := { parameters := [], returnType := none }, accessFlags := 1, code := none }
def k1c1 : Code := { maxStack := 5, maxLocals := 21, code := code, exceptionTable := #[], attributes := #[] }
def k1m1 : Method := { name := "law", desc := "(IIIIIJ)Z", sig := { parameters := [.int, .int, .int, .int, .int, .long], returnType := some .boolean }, accessFlags := 9, code := some k1c1 }
/-- com/example/rillgraph/rillgraph/core/model/ChangeChangesPinLaw -/
def k1 : Class := { plain "com/example/rillgraph/rillgraph/core/model/ChangeChangesPinLaw" (some 0) with
  accessFlags := 49
  interfaces := #[]
  cf := some (fileOf pool1 21 #[] #[{ accessFlags := 1, nameIndex := 5, descriptorIndex := 6, attributes := #[] }, { accessFlags := 9, nameIndex := 25, descriptorIndex := 26, attributes := #[] }] 49 2 #[] #[])
  fields := #[]
  methods := #[k1m0, k1m1]
  instanceTypes := #[]
  staticTypes := #[]
  resolved := Array.replicate 36 none
  statics := none }

def pool2 : Array CpInfo := pool [(1, .methodref 2 3), (0, .class_ 4), (0, .nameAndType 5 6), (0, u "java/lang/Object"), (0, u "<init>"), (0, u "()V"), (0, .fieldref 8 9), (0, .class_ 10), (0, .nameAndType 11 12), (0, u "com/example/rillgraph/rillgraph/core/model/Aggregator$Change"), (0, u "sums"), (0, u "[D"), (0, .methodref 14 15), (0, .class_ 16), (0, .nameAndType 17 18), (0, u "com/example/rillgraph/rillgraph/core/model/Aggregator"), (0, u "addTimes"), (0, u "([D[DI)V"), (0, .fieldref 8 20), (0, .nameAndType 21 22), (0, u "count"), (0, u "J"), (0, u "(I)V"), (2, u "add"), (0, u "([DIJ)V"), (0, u "changes"), (0, u "()Z")] 9

def k2c0 : Code := { maxStack := 2, maxLocals := 2, code := prog_60_method_1_code, exceptionTable := #[], attributes := #[] }
def k2m0 : Method := { name := "<init>", desc := "(I)V", sig := { parameters := [.int], returnType := none }, accessFlags := 1, code := some k2c0 }
def k2c1 : Code := { maxStack := 5, maxLocals := 5, code := prog_60_method_2_code, exceptionTable := #[], attributes := #[] }
def k2m1 : Method := { name := "add", desc := "([DIJ)V", sig := { parameters := [(.array .double), .int, .long], returnType := none }, accessFlags := 1, code := some k2c1 }
def k2c2 : Code := { maxStack := 4, maxLocals := 6, code := prog_60_method_3_code, exceptionTable := #[], attributes := #[] }
def k2m2 : Method := { name := "changes", desc := "()Z", sig := { parameters := [], returnType := some .boolean }, accessFlags := 1, code := some k2c2 }
/-- com/example/rillgraph/rillgraph/core/model/Aggregator$Change -/
def k2 : Class := { plain "com/example/rillgraph/rillgraph/core/model/Aggregator$Change" (some 0) with
  accessFlags := 49
  interfaces := #[]
  cf := some (fileOf pool2 8 #[.nestHost 14] #[{ accessFlags := 1, nameIndex := 5, descriptorIndex := 23, attributes := #[] }, { accessFlags := 1, nameIndex := 26, descriptorIndex := 27, attributes := #[] }, { accessFlags := 1, nameIndex := 28, descriptorIndex := 29, attributes := #[] }] 49 2 #[] #[{ accessFlags := 18, nameIndex := 11, descriptorIndex := 12, attributes := #[] }, { accessFlags := 2, nameIndex := 21, descriptorIndex := 22, attributes := #[] }])
  fields := #[{ name := "sums", type := (.array .double), accessFlags := 18, slot := 0, constantValue := 0 }, { name := "count", type := .long, accessFlags := 2, slot := 1, constantValue := 0 }]
  methods := #[k2m0, k2m1, k2m2]
  instanceTypes := #[(.array .double), .long]
  staticTypes := #[]
  resolved := Array.replicate 39 none
  statics := none }

def pool3 : Array CpInfo := pool [(2, .class_ 4), (1, u "java/lang/Object"), (3, .class_ 10), (1, u "com/example/rillgraph/rillgraph/core/model/Aggregator"), (0, u "sums"), (0, u "[D"), (7, u "count"), (0, u "J"), (2, u "addTimes"), (0, u "([D[DI)V"), (18, .class_ 45), (0, u "com/example/rillgraph/rillgraph/core/model/Aggregator$Change")] 2

def k3c0 : Code := { maxStack := 8, maxLocals := 6, code := prog_59_method_6_code, exceptionTable := #[], attributes := #[] }
def k3m0 : Method := { name := "addTimes", desc := "([D[DI)V", sig := { parameters := [(.array .double), (.array .double), .int], returnType := none }, accessFlags := 10, code := some k3c0 }
/-- com/example/rillgraph/rillgraph/core/model/Aggregator -/
def k3 : Class := { plain "com/example/rillgraph/rillgraph/core/model/Aggregator" (some 0) with
  accessFlags := 49
  interfaces := #[]
  cf := some (fileOf pool3 8 #[.nestMembers #[44]] #[{ accessFlags := 10, nameIndex := 24, descriptorIndex := 25, attributes := #[] }] 49 2 #[] #[{ accessFlags := 18, nameIndex := 11, descriptorIndex := 12, attributes := #[] }, { accessFlags := 2, nameIndex := 20, descriptorIndex := 21, attributes := #[] }])
  fields := #[{ name := "sums", type := (.array .double), accessFlags := 18, slot := 0, constantValue := 0 }, { name := "count", type := .long, accessFlags := 2, slot := 1, constantValue := 0 }]
  methods := #[k3m0]
  instanceTypes := #[(.array .double), .long]
  staticTypes := #[]
  resolved := Array.replicate 48 none
  statics := none }

def pool4 : Array CpInfo := pool [(1, u "java/lang/Cloneable"), (0, .class_ 1), (0, u "java/lang/Object"), (0, .class_ 3)] 3

/-- java/lang/Cloneable -/
def k4 : Class := { plain "java/lang/Cloneable" (some 0) with
  accessFlags := 1537
  interfaces := #[]
  cf := some (fileOf pool4 2 #[] #[] 1537 4 #[] #[])
  fields := #[]
  methods := #[]
  instanceTypes := #[]
  staticTypes := #[]
  resolved := Array.replicate 8 none
  statics := none }

def pool5 : Array CpInfo := pool [(1, u "java/io/Serializable"), (0, .class_ 1), (0, u "java/lang/Object"), (0, .class_ 3)] 3

/-- java/io/Serializable -/
def k5 : Class := { plain "java/io/Serializable" (some 0) with
  accessFlags := 1537
  interfaces := #[]
  cf := some (fileOf pool5 2 #[] #[] 1537 4 #[] #[])
  fields := #[]
  methods := #[]
  instanceTypes := #[]
  staticTypes := #[]
  resolved := Array.replicate 8 none
  statics := none }

/-- the primitive byte -/
def k6 : Class := { plain "byte" none with kind := .primitive 'B', accessFlags := 0x411 }
/-- [B -/
def k7 : Class := { plain "[B" (some 0) with kind := .array 6 .byte, interfaces := #[4, 5], accessFlags := 1041 }

/-- the primitive int -/
def k8 : Class := { plain "int" none with kind := .primitive 'I', accessFlags := 0x411 }
/-- [I -/
def k9 : Class := { plain "[I" (some 0) with kind := .array 8 .int, interfaces := #[4, 5], accessFlags := 1041 }

def k10 : Class := { plain "double" none with kind := .primitive 'D', accessFlags := 0x411 }
def k11 : Class := { plain "[D" (some 0) with kind := .array 10 .double, interfaces := #[4, 5], accessFlags := 1041 }
def heap : Heap := #[]
def classes : Array Class := #[k0, k1, k2, k3, k4, k5, k6, k7, k8, k9, k10, k11]
def interned : List (Array UInt16 × Addr) := []
def slotsUsed : Nat := 0
def theMethod : MethodId := ⟨1, 1⟩
def args0 : Array Value := #[.int 5, .int 6, .int 7, .int 8, .int 3, .long 3]
def aboutOver (below : List Frame) : State where
  vm := { classes := classes, interned := interned.toArray }
  heap := heap
  slotsUsed := slotsUsed
  threads := #[{ frames := .invoking theMethod args0 :: below }]
def below0 : List Frame := [.native { method := ⟨0, 0⟩, args := #[] }]
def about1 : State := aboutOver below0
def p0 : Program := .bare "" "" ""
def e0 : Env := launch0.env 0 0 0
theorem w_frames : about1.frames = Frame.invoking theMethod args0 :: below0 := rfl
set_option maxRecDepth 65536 in
theorem w_args : argsFit about1.vm theMethod args0 = true := by decide +kernel
set_option maxRecDepth 65536 in
theorem w_heap : heapFits about1 = true := by decide +kernel
set_option maxRecDepth 65536 in
theorem w_runnable : about1.curStatus? = some .runnable := by decide +kernel
set_option maxRecDepth 65536 in
theorem w_alone : about1.alone = true := by decide +kernel
set_option maxRecDepth 65536 in
theorem w_named : about1.methodNamed? x = some theMethod := by decide +kernel
set_option maxRecDepth 65536 in
theorem w_hears : about1.hears theMethod below0 = true := by decide +kernel
set_option maxRecDepth 65536 in
theorem w_ripe : about1.ripe theMethod args0 below0 = true := by decide +kernel
theorem w_running : about1.status = .running := rfl
set_option maxRecDepth 65536 in
theorem w_room : about1.hasRoom e0.platform room_1 = true :=
  launch0.hasRoom_least _ room_1 (by decide +kernel) (by decide +kernel) (by decide +kernel) (by decide +kernel) (by decide +kernel) (by decide +kernel)
theorem allAtoms_all (ts : List Jvm.Cond) (a : Array Jvm.Value) (st : Jvm.State) : (allAtoms ts).before a st = ts.all (fun c => c.before a st) := by
  induction ts with
  | nil => rfl
  | cons c t ih =>
    show (Jvm.Cond.and c (allAtoms t)).before a st = _
    rw [Jvm.Cond.before_and, ih, List.all_cons]
def words1 : List Jvm.Cond := Jvm.Cond.code x code maxLocals ret :: tables_1
/-- a 'code' word, met by the world's own term for the bytes: nothing is compared byte by byte -/
theorem code_word {y : MethodName} {bytes : ByteArray} {mx : Nat} {rt : Option FieldType} {a : Array Value} {s : State} {m : MethodId} {meth : Method} {c : Code} (h1 : s.methodNamed? y = some m) (h2 : s.vm.method? m = some meth) (h3 : meth.code = some c) (h4 : c.code = bytes)
    (h5 : (c.maxLocals == mx && c.exceptionTable.isEmpty && decide (c.maxStack ≤ mostOperands) && decide (meth.sig.returnType = rt) && !meth.locks && decide (parseMethodDescriptor y.desc = some meth.sig)) = true) : (Jvm.Cond.code y bytes mx rt).before a s = true := by
  simp only [Bool.and_eq_true, beq_iff_eq, Bool.not_eq_true', decide_eq_true_eq] at h5
  obtain ⟨⟨⟨⟨⟨g1, g2⟩, g3⟩, g4⟩, g5⟩, g6⟩ := h5
  simp [Cond.before, Cond.holds, Cond.value, h1, h2, h3, h4, g1, g2, g3, g4, g5, g6]
def isCode : Jvm.Cond → Bool
  | .code _ _ _ _ => true
  | _ => false
theorem all_split {L : List Jvm.Cond} {P : Jvm.Cond → Bool} (h1 : L.all (fun c => isCode c || P c) = true) (h2 : ∀ c ∈ L.filter isCode, P c = true) : L.all P = true := by
  refine List.all_eq_true.mpr fun c hc => ?_
  have h := List.all_eq_true.mp h1 c hc
  rcases Bool.eq_false_or_eq_true (isCode c) with hi | hi
  · exact h2 c (List.mem_filter.mpr ⟨hc, hi⟩)
  · simpa [hi] using h
set_option maxRecDepth 65536 in
theorem w_c0 : (Jvm.Cond.code x code maxLocals ret).before args0 about1 = true := code_word (m := ⟨1, 1⟩) (meth := k1m1) (c := k1c1) (by decide +kernel) rfl rfl rfl (by decide +kernel)
set_option maxRecDepth 65536 in
theorem w_c1 : (Jvm.Cond.code ({ cls := "com/example/rillgraph/rillgraph/core/model/Aggregator$Change", name := "<init>", desc := "(I)V" } : Jvm.MethodName) prog_60_method_1_code (2 : Nat) (Option.none : Option Jvm.ClassFile.FieldType)).before args0 about1 = true := code_word (m := ⟨2, 0⟩) (meth := k2m0) (c := k2c0) (by decide +kernel) rfl rfl rfl (by decide +kernel)
set_option maxRecDepth 65536 in
theorem w_c2 : (Jvm.Cond.code ({ cls := "java/lang/Object", name := "<init>", desc := "()V" } : Jvm.MethodName) object_method_1_code (1 : Nat) (Option.none : Option Jvm.ClassFile.FieldType)).before args0 about1 = true := code_word (m := ⟨0, 0⟩) (meth := k0m0) (c := k0c0) (by decide +kernel) rfl rfl rfl (by decide +kernel)
set_option maxRecDepth 65536 in
theorem w_c3 : (Jvm.Cond.code ({ cls := "com/example/rillgraph/rillgraph/core/model/Aggregator$Change", name := "add", desc := "([DIJ)V" } : Jvm.MethodName) prog_60_method_2_code (5 : Nat) (Option.none : Option Jvm.ClassFile.FieldType)).before args0 about1 = true := code_word (m := ⟨2, 1⟩) (meth := k2m1) (c := k2c1) (by decide +kernel) rfl rfl rfl (by decide +kernel)
set_option maxRecDepth 65536 in
theorem w_c4 : (Jvm.Cond.code ({ cls := "com/example/rillgraph/rillgraph/core/model/Aggregator", name := "addTimes", desc := "([D[DI)V" } : Jvm.MethodName) prog_59_method_6_code (6 : Nat) (Option.none : Option Jvm.ClassFile.FieldType)).before args0 about1 = true := code_word (m := ⟨3, 0⟩) (meth := k3m0) (c := k3c0) (by decide +kernel) rfl rfl rfl (by decide +kernel)
set_option maxRecDepth 65536 in
theorem w_c5 : (Jvm.Cond.code ({ cls := "com/example/rillgraph/rillgraph/core/model/Aggregator$Change", name := "changes", desc := "()Z" } : Jvm.MethodName) prog_60_method_3_code (6 : Nat) (Option.some Jvm.ClassFile.FieldType.boolean)).before args0 about1 = true := code_word (m := ⟨2, 2⟩) (meth := k2m2) (c := k2c2) (by decide +kernel) rfl rfl rfl (by decide +kernel)
def codes1 : List Jvm.Cond := [Jvm.Cond.code x code maxLocals ret, Jvm.Cond.code ({ cls := "com/example/rillgraph/rillgraph/core/model/Aggregator$Change", name := "<init>", desc := "(I)V" } : Jvm.MethodName) prog_60_method_1_code (2 : Nat) (Option.none : Option Jvm.ClassFile.FieldType), Jvm.Cond.code ({ cls := "java/lang/Object", name := "<init>", desc := "()V" } : Jvm.MethodName) object_method_1_code (1 : Nat) (Option.none : Option Jvm.ClassFile.FieldType), Jvm.Cond.code ({ cls := "com/example/rillgraph/rillgraph/core/model/Aggregator$Change", name := "add", desc := "([DIJ)V" } : Jvm.MethodName) prog_60_method_2_code (5 : Nat) (Option.none : Option Jvm.ClassFile.FieldType), Jvm.Cond.code ({ cls := "com/example/rillgraph/rillgraph/core/model/Aggregator", name := "addTimes", desc := "([D[DI)V" } : Jvm.MethodName) prog_59_method_6_code (6 : Nat) (Option.none : Option Jvm.ClassFile.FieldType), Jvm.Cond.code ({ cls := "com/example/rillgraph/rillgraph/core/model/Aggregator$Change", name := "changes", desc := "()Z" } : Jvm.MethodName) prog_60_method_3_code (6 : Nat) (Option.some Jvm.ClassFile.FieldType.boolean)]
set_option maxRecDepth 65536 in
theorem codes_eq : words1.filter isCode = codes1 := rfl
theorem w_codes : ∀ c ∈ words1.filter isCode, c.before args0 about1 = true := by
  rw [codes_eq]
  intro c hc
  simp only [codes1, List.mem_cons, List.not_mem_nil, or_false] at hc
  rcases hc with rfl | rfl | rfl | rfl | rfl | rfl
  · exact w_c0
  · exact w_c1
  · exact w_c2
  · exact w_c3
  · exact w_c4
  · exact w_c5
set_option maxRecDepth 65536 in
theorem w_t1 : (words1.take 24).all (fun c => isCode c || c.before args0 about1) = true := by decide +kernel
set_option maxRecDepth 65536 in
theorem w_t2 : (words1.drop 24).all (fun c => isCode c || c.before args0 about1) = true := by decide +kernel
theorem w_tables : (allAtoms (Jvm.Cond.code x code maxLocals ret :: tables_1)).before args0 about1 = true := by
  rw [allAtoms_all]
  show words1.all (fun c => c.before args0 about1) = true
  refine all_split ?_ w_codes
  rw [← List.take_append_drop 24 words1, List.all_append, w_t1, w_t2]
  rfl
set_option maxRecDepth 65536 in
theorem w_case : (Jvm.Cond.and given_1 narrow_1).before args0 about1 = true := by decide +kernel
theorem w_applies : (headSpec (Jvm.Cond.code x code maxLocals ret :: tables_1) room_1).applies x e0.platform about1 = true :=
  (Spec.applies_iff w_frames).mpr ⟨w_running, w_runnable, w_alone, w_named, w_hears, w_ripe, w_room, w_tables⟩
theorem atStart : AtStart classFile x code maxLocals ret World_1 tables_1 room_1 Calls_1 rest_1 Pre_1 launch0 p0 e0 about1 theMethod args0 below0 :=
  ⟨lists_1, trivial, launch0.admits_env _ _ _, launch0.least_env, fairChoices_fair.cas, fairChoices_fair.clock, w_frames, w_args, w_heap, w_applies, trivial, trivial, w_case⟩
end start1
theorem witness_1 : WitnessClaimed_1 := ⟨start1.p0, start1.e0, start1.about1, start1.theMethod, start1.args0, start1.below0, start1.atStart⟩
end Jvm.Pilot.@@N@@
