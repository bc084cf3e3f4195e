import JvmDerived
import JvmDerived.Pilot.@@N@@Statement
import JvmDerived.Pilot.@@N@@Code
set_option linter.unusedVariables false
set_option linter.unusedSimpArgs false
namespace Jvm.Pilot.@@N@@
open Jvm Jvm.ClassFile Sem Op Lib Jvm.Free Jvm.Stand Jvm.LawKit Jvm.RoadKit Bundle Jvm.Pilot.@@N@@.Jvm.D
/-- from t the run comes to an end of which P holds -/
def Goes (tb : Tables) (e : Env) (below : List Frame) (P : Outcome → State → Prop) (t : State) : Prop := ∃ s₂ o, Steps tb e below t s₂ ∧ s₂.status = .running ∧ Ended s₂ below o ∧ P o s₂
theorem Goes.on {tb : Tables} {e : Env} {below : List Frame} {P : Outcome → State → Prop} {t t' : State} (h : ∀ target, Steps tb e below t' target → Steps tb e below t target) (k : Goes tb e below P t') : Goes tb e below P t := by
  obtain ⟨s₂, o, h1, h2⟩ := k
  exact ⟨s₂, o, h _ h1, h2⟩
theorem Goes.to {tb : Tables} {e : Env} {below : List Frame} {P : Outcome → State → Prop} {t t' : State} (h : Steps tb e below t t') (k : Goes tb e below P t') : Goes tb e below P t := k.on fun _ q => h.trans q
/-- what a body's end says -/
def Ends (s : State) (Q : Option Value → Heap → List Loc → Prop) (C S : Nat) (o : Outcome) (U : State) : Prop := ∃ v L, o = .returned v ∧ Q v U.heap L ∧ FrameEnd s o U L C S
/-- a body's contract -/
def Met (l : Launch) (Z : State) (y : MethodName) (bytes : ByteArray) (maxL : Nat) (ret : Option FieldType) (rm : Room) (ws : List Jvm.Cond) (as' : Array Value) (h0 : Heap) (Q : Option Value → Heap → List Loc → Prop) : Prop :=
  MetFree l y (head1 (Jvm.Cond.code y bytes maxL ret :: ws) rm) (fun a U => a = as' ∧ Z.Warmed39 U.vm ∧ U.heap = h0) (fun _ _ _ _ _ => True) (fun _ U o U' => ∃ v L, o = .returned v ∧ Q v U'.heap L ∧ FrameEnd U o U' L rm.cells rm.slots)
section Own
variable {p : Program} {l : Launch} {e : Env} {R : Room} {s : State} {m : MethodId} {args : Array Value} {below : List Frame} {meth : Method} {c : Code} {T : State} {locs : List Loc} {cells slots cells' slots' : Nat} {Z : State} {a0 : Array Value} {h : Heap} {P : Outcome → State → Prop} {pc pc' : Nat} {L L' : Array Slot} {S : List Value}
theorem met_of {y : MethodName} {bytes : ByteArray} {maxL : Nat} {ret : Option FieldType} {rm : Room} {ws : List Jvm.Cond} {as' : Array Value} {h0 : Heap} {Q : Option Value → Heap → List Loc → Prop} {L0 : Array Slot}
    (hpn : plainFor y = true) (hef : ∀ m, entryFrame m as' maxL = mkF m 0 L0 [])
    (body : ∀ (p : Program) (e : Env) (s : State) (m : MethodId) (below : List Frame) (meth : Method) (c : Code) (T : State), p.tables.exec = Jvm.exec → c.code = bytes → c.maxLocals = maxL → s.vm.findClass y.cls = some m.cls → meth.name = y.name → meth.sig.returnType = ret → meth.locks = false → Z.Warmed39 s.vm → Stand p l e rm s m as' below meth c T [] 0 0 → T.heap = h0 → Goes p.tables e below (Ends s Q rm.cells rm.slots) (T.setTop (mkF m 0 L0 []))) :
    Met l Z y bytes maxL ret rm ws as' h0 Q := by
  refine MetFree.of_bodySF hpn hisR ?_
  intro p e s m args below meth c s₁ Bd hml0 hP hK
  obtain ⟨rfl, hZ, hh⟩ := hP
  have e0 : s₁.heap = h0 := by rw [← hh, Bd.state]; rfl
  obtain ⟨s₂, o, h1, h2, h3, h4⟩ := body p e s m below meth c s₁ Bd.exec Bd.bytes hml0 (findClass_of_methodNamed Bd.named) (name_of_methodNamed Bd.named Bd.method).1 Bd.returns (BodyLoose.notSynchronized Bd) hZ (Stand.of_body Bd) e0
  exact ⟨s₂, o, castTop (hef m) h1, h2, h3, h4⟩
theorem o_cat {v : Value} (h : v.isRef = true) : v.category = 1 := by rcases ref_cases h with rfl | ⟨a, rfl⟩ <;> rfl
theorem o_nar {C : String} {v : Value} (h : v.isRef = true) : narrow (.object C) v = v := by rcases ref_cases h with rfl | ⟨a, rfl⟩ <;> rfl
theorem o_fit {C : String} {v : Value} (h : v.isRef = true) : fits (.object C) v = true := by rcases ref_cases h with rfl | ⟨a, rfl⟩ <;> rfl
theorem o_nar01 {z : Int32} (h : z = 0 ∨ z = 1) : narrow .boolean (.int z) = .int z := by rcases h with rfl | rfl <;> rfl
theorem o_fit01 {z : Int32} (h : z = 0 ∨ z = 1) : fits .boolean (.int z) = true := by rcases h with rfl | rfl <;> rfl
theorem o_ret (X : Stand p l e R s m args below meth c T locs cells slots) (hx : p.tables.exec = Jvm.exec) (hlk : meth.locks = false) {w : Value} {t : FieldType} {i : Instr} {Q : Option Value → Heap → List Loc → Prop} {C Sl : Nat} (hret : meth.sig.returnType = some t) (hn : narrow t w = w)
    (hi : (i = .ireturn ∧ (t = .int ∨ t = .boolean ∨ t = .byte ∨ t = .char ∨ t = .short) ∧ ∃ z, w = .int z) ∨ (i = .lreturn ∧ t = .long ∧ ∃ z, w = .long z) ∨ (i = .dreturn ∧ t = .double ∧ ∃ z, w = .double z) ∨ (i = .freturn ∧ t = .float ∧ ∃ z, w = .float z) ∨ (i = .areturn ∧ t.isReference = true ∧ w.isRef = true))
    (hd : decode c.code pc = .ok (i, 1)) (hC : cells ≤ C) (hS : slots ≤ Sl) (eT : T.heap = h) (hq : Q (some w) h locs) : Goes p.tables e below (Ends s Q C Sl) (T.setTop (mkF m pc L (w :: S))) := by
  subst eT
  obtain ⟨fs, hr, hrun, hended, hW, hsame⟩ := X.leave (v := some w) (fun h => by rw [hret] at h; cases h) hlk
  exact ⟨_, _, retOut X hx hret hn hi hd hr, hrun, hended, _, _, rfl, hq, ⟨_, rfl⟩, hW, hsame.mono hC hS⟩
theorem o_retV (X : Stand p l e R s m args below meth c T locs cells slots) (hx : p.tables.exec = Jvm.exec) (hlk : meth.locks = false) {Q : Option Value → Heap → List Loc → Prop} {C Sl : Nat} (hret : meth.sig.returnType = none) (hd : decode c.code pc = .ok (.return_, 1)) (hC : cells ≤ C) (hS : slots ≤ Sl) (eT : T.heap = h) (hq : Q none h locs) :
    Goes p.tables e below (Ends s Q C Sl) (T.setTop (mkF m pc L [])) := by
  subst eT
  obtain ⟨fs, hr, hrun, hended, hW, hsame⟩ := X.leave (v := none) (fun _ => rfl) hlk
  exact ⟨_, _, X.returnOut hx hret hd hr, hrun, hended, _, _, rfl, hq, ⟨_, rfl⟩, hW, hsame.mono hC hS⟩
theorem o_iloadN (X : Stand p l e R s m args below meth c T locs cells slots) (hx : p.tables.exec = Jvm.exec) {k : Fin 4} {v : Int32} (hd : decode c.code pc = .ok (.iload_n k, 1)) (hl : L[k.val]? = some (.val (.int v))) (hp : pc + 1 = pc') (kk : Goes p.tables e below P (T.setTop (mkF m pc' L (.int v :: S)))) : Goes p.tables e below P (T.setTop (mkF m pc L S)) := by
  subst hp; exact kk.on fun _ k => XS.iloadN X.here hx rfl hd hl k
theorem o_iload (X : Stand p l e R s m args below meth c T locs cells slots) (hx : p.tables.exec = Jvm.exec) {k : Nat} {v : Int32} (hd : decode c.code pc = .ok (.iload k, 2)) (hl : L[k]? = some (.val (.int v))) (hp : pc + 2 = pc') (kk : Goes p.tables e below P (T.setTop (mkF m pc' L (.int v :: S)))) : Goes p.tables e below P (T.setTop (mkF m pc L S)) := by
  subst hp; exact kk.on fun _ k => XS.iload X.here hx rfl hd hl k
theorem o_istoreN (X : Stand p l e R s m args below meth c T locs cells slots) (hx : p.tables.exec = Jvm.exec) {k : Fin 4} {x : Int32} (hd : decode c.code pc = .ok (.istore_n k, 1)) (hl : storeLocals L k.val (.int x) = some L') (hp : pc + 1 = pc') (kk : Goes p.tables e below P (T.setTop (mkF m pc' L' S))) : Goes p.tables e below P (T.setTop (mkF m pc L (.int x :: S))) := by
  subst hp; exact kk.on fun _ k => XS.istoreN X.here hx rfl hd rfl hl k
theorem o_istore (X : Stand p l e R s m args below meth c T locs cells slots) (hx : p.tables.exec = Jvm.exec) {k : Nat} {x : Int32} (hd : decode c.code pc = .ok (.istore k, 2)) (hl : storeLocals L k (.int x) = some L') (hp : pc + 2 = pc') (kk : Goes p.tables e below P (T.setTop (mkF m pc' L' S))) : Goes p.tables e below P (T.setTop (mkF m pc L (.int x :: S))) := by
  subst hp; exact kk.on fun _ k => XS.istore X.here hx rfl hd rfl hl k
theorem o_lloadN (X : Stand p l e R s m args below meth c T locs cells slots) (hx : p.tables.exec = Jvm.exec) {k : Fin 4} {v : Int64} (hd : decode c.code pc = .ok (.lload_n k, 1)) (hl : L[k.val]? = some (.val (.long v))) (hp : pc + 1 = pc') (kk : Goes p.tables e below P (T.setTop (mkF m pc' L (.long v :: S)))) : Goes p.tables e below P (T.setTop (mkF m pc L S)) := by
  subst hp; exact kk.on fun _ k => XS.lloadN X.here hx rfl hd hl k
theorem o_lload (X : Stand p l e R s m args below meth c T locs cells slots) (hx : p.tables.exec = Jvm.exec) {k : Nat} {v : Int64} (hd : decode c.code pc = .ok (.lload k, 2)) (hl : L[k]? = some (.val (.long v))) (hp : pc + 2 = pc') (kk : Goes p.tables e below P (T.setTop (mkF m pc' L (.long v :: S)))) : Goes p.tables e below P (T.setTop (mkF m pc L S)) := by
  subst hp; exact kk.on fun _ k => XS.lload X.here hx rfl hd hl k
theorem o_lstoreN (X : Stand p l e R s m args below meth c T locs cells slots) (hx : p.tables.exec = Jvm.exec) {k : Fin 4} {x : Int64} (hd : decode c.code pc = .ok (.lstore_n k, 1)) (hl : storeLocals L k.val (.long x) = some L') (hp : pc + 1 = pc') (kk : Goes p.tables e below P (T.setTop (mkF m pc' L' S))) : Goes p.tables e below P (T.setTop (mkF m pc L (.long x :: S))) := by
  subst hp; exact kk.on fun _ k => XS.lstoreN X.here hx rfl hd rfl hl k
theorem o_lstore (X : Stand p l e R s m args below meth c T locs cells slots) (hx : p.tables.exec = Jvm.exec) {k : Nat} {x : Int64} (hd : decode c.code pc = .ok (.lstore k, 2)) (hl : storeLocals L k (.long x) = some L') (hp : pc + 2 = pc') (kk : Goes p.tables e below P (T.setTop (mkF m pc' L' S))) : Goes p.tables e below P (T.setTop (mkF m pc L (.long x :: S))) := by
  subst hp; exact kk.on fun _ k => XS.lstore X.here hx rfl hd rfl hl k
theorem o_aloadN (X : Stand p l e R s m args below meth c T locs cells slots) (hx : p.tables.exec = Jvm.exec) {k : Fin 4} {v : Value} (hd : decode c.code pc = .ok (.aload_n k, 1)) (hl : L[k.val]? = some (.val v)) (hv : v.isRef = true) (hp : pc + 1 = pc') (kk : Goes p.tables e below P (T.setTop (mkF m pc' L (v :: S)))) : Goes p.tables e below P (T.setTop (mkF m pc L S)) := by
  subst hp; exact kk.on fun _ k => XS.aloadN X.here hx rfl hd hl hv k
theorem o_aload (X : Stand p l e R s m args below meth c T locs cells slots) (hx : p.tables.exec = Jvm.exec) {k : Nat} {v : Value} (hd : decode c.code pc = .ok (.aload k, 2)) (hl : L[k]? = some (.val v)) (hv : v.isRef = true) (hp : pc + 2 = pc') (kk : Goes p.tables e below P (T.setTop (mkF m pc' L (v :: S)))) : Goes p.tables e below P (T.setTop (mkF m pc L S)) := by
  subst hp; exact kk.on fun _ k => XS.aload X.here hx rfl hd hl hv k
theorem o_astoreN (X : Stand p l e R s m args below meth c T locs cells slots) (hx : p.tables.exec = Jvm.exec) {k : Fin 4} {x : Value} (hd : decode c.code pc = .ok (.astore_n k, 1)) (hv : x.isRef = true) (hl : storeLocals L k.val x = some L') (hp : pc + 1 = pc') (kk : Goes p.tables e below P (T.setTop (mkF m pc' L' S))) : Goes p.tables e below P (T.setTop (mkF m pc L (x :: S))) := by
  subst hp; exact kk.on fun _ k => XS.astoreN X.here hx rfl hd rfl hv hl k
theorem o_astore (X : Stand p l e R s m args below meth c T locs cells slots) (hx : p.tables.exec = Jvm.exec) {k : Nat} {x : Value} (hd : decode c.code pc = .ok (.astore k, 2)) (hv : x.isRef = true) (hl : storeLocals L k x = some L') (hp : pc + 2 = pc') (kk : Goes p.tables e below P (T.setTop (mkF m pc' L' S))) : Goes p.tables e below P (T.setTop (mkF m pc L (x :: S))) := by
  subst hp; exact kk.on fun _ k => XS.astore X.here hx rfl hd rfl hv hl k
theorem o_iconst (X : Stand p l e R s m args below meth c T locs cells slots) (hx : p.tables.exec = Jvm.exec) {i : Int} {v : Int32} (hd : decode c.code pc = .ok (.iconst i, 1)) (hv : Int32.ofInt i = v) (hp : pc + 1 = pc') (kk : Goes p.tables e below P (T.setTop (mkF m pc' L (.int v :: S)))) : Goes p.tables e below P (T.setTop (mkF m pc L S)) := by
  subst hp; subst hv; exact kk.on fun _ k => XS.iconst X.here hx rfl hd  k
theorem o_bipush (X : Stand p l e R s m args below meth c T locs cells slots) (hx : p.tables.exec = Jvm.exec) {i : Int} {v : Int32} (hd : decode c.code pc = .ok (.bipush i, 2)) (hv : (Int8.ofInt i).toInt32 = v) (hp : pc + 2 = pc') (kk : Goes p.tables e below P (T.setTop (mkF m pc' L (.int v :: S)))) : Goes p.tables e below P (T.setTop (mkF m pc L S)) := by
  subst hp; subst hv; exact kk.on fun _ k => XS.bipush X.here hx rfl hd  k
theorem o_sipush (X : Stand p l e R s m args below meth c T locs cells slots) (hx : p.tables.exec = Jvm.exec) {i : Int} {v : Int32} (hd : decode c.code pc = .ok (.sipush i, 3)) (hv : (Int16.ofInt i).toInt32 = v) (hp : pc + 3 = pc') (kk : Goes p.tables e below P (T.setTop (mkF m pc' L (.int v :: S)))) : Goes p.tables e below P (T.setTop (mkF m pc L S)) := by
  subst hp; subst hv; exact kk.on fun _ k => XS.sipush X.here hx rfl hd  k
theorem o_lconst (X : Stand p l e R s m args below meth c T locs cells slots) (hx : p.tables.exec = Jvm.exec) {k : Fin 2} {v : Int64} (hd : decode c.code pc = .ok (.lconst k, 1)) (hv : Int64.ofNat k = v) (hp : pc + 1 = pc') (kk : Goes p.tables e below P (T.setTop (mkF m pc' L (.long v :: S)))) : Goes p.tables e below P (T.setTop (mkF m pc L S)) := by
  subst hp; subst hv; exact kk.on fun _ k => XS.lconst X.here hx rfl hd  k
theorem o_aconstNull (X : Stand p l e R s m args below meth c T locs cells slots) (hx : p.tables.exec = Jvm.exec)  (hd : decode c.code pc = .ok (.aconst_null, 1)) (hp : pc + 1 = pc') (kk : Goes p.tables e below P (T.setTop (mkF m pc' L (.null :: S)))) : Goes p.tables e below P (T.setTop (mkF m pc L S)) := by
  subst hp; exact kk.on fun _ k => XS.aconstNull X.here hx rfl hd  k
theorem o_iadd (X : Stand p l e R s m args below meth c T locs cells slots) (hx : p.tables.exec = Jvm.exec) {x y : Int32} (hd : decode c.code pc = .ok (.iadd, 1)) (hp : pc + 1 = pc') (kk : Goes p.tables e below P (T.setTop (mkF m pc' L (.int (x + y) :: S)))) : Goes p.tables e below P (T.setTop (mkF m pc L (.int y :: .int x :: S))) := by
  subst hp; exact kk.on fun _ k => XS.iadd X.here hx rfl hd rfl k
theorem o_isub (X : Stand p l e R s m args below meth c T locs cells slots) (hx : p.tables.exec = Jvm.exec) {x y : Int32} (hd : decode c.code pc = .ok (.isub, 1)) (hp : pc + 1 = pc') (kk : Goes p.tables e below P (T.setTop (mkF m pc' L (.int (x - y) :: S)))) : Goes p.tables e below P (T.setTop (mkF m pc L (.int y :: .int x :: S))) := by
  subst hp; exact kk.on fun _ k => XS.isub X.here hx rfl hd rfl k
theorem o_imul (X : Stand p l e R s m args below meth c T locs cells slots) (hx : p.tables.exec = Jvm.exec) {x y : Int32} (hd : decode c.code pc = .ok (.imul, 1)) (hp : pc + 1 = pc') (kk : Goes p.tables e below P (T.setTop (mkF m pc' L (.int (x * y) :: S)))) : Goes p.tables e below P (T.setTop (mkF m pc L (.int y :: .int x :: S))) := by
  subst hp; exact kk.on fun _ k => XS.imul X.here hx rfl hd rfl k
theorem o_iand (X : Stand p l e R s m args below meth c T locs cells slots) (hx : p.tables.exec = Jvm.exec) {x y : Int32} (hd : decode c.code pc = .ok (.iand, 1)) (hp : pc + 1 = pc') (kk : Goes p.tables e below P (T.setTop (mkF m pc' L (.int (x &&& y) :: S)))) : Goes p.tables e below P (T.setTop (mkF m pc L (.int y :: .int x :: S))) := by
  subst hp; exact kk.on fun _ k => XS.iand X.here hx rfl hd rfl k
theorem o_ior (X : Stand p l e R s m args below meth c T locs cells slots) (hx : p.tables.exec = Jvm.exec) {x y : Int32} (hd : decode c.code pc = .ok (.ior, 1)) (hp : pc + 1 = pc') (kk : Goes p.tables e below P (T.setTop (mkF m pc' L (.int (x ||| y) :: S)))) : Goes p.tables e below P (T.setTop (mkF m pc L (.int y :: .int x :: S))) := by
  subst hp; exact kk.on fun _ k => XS.ior X.here hx rfl hd rfl k
theorem o_ixor (X : Stand p l e R s m args below meth c T locs cells slots) (hx : p.tables.exec = Jvm.exec) {x y : Int32} (hd : decode c.code pc = .ok (.ixor, 1)) (hp : pc + 1 = pc') (kk : Goes p.tables e below P (T.setTop (mkF m pc' L (.int (x ^^^ y) :: S)))) : Goes p.tables e below P (T.setTop (mkF m pc L (.int y :: .int x :: S))) := by
  subst hp; exact kk.on fun _ k => XS.ixor X.here hx rfl hd rfl k
theorem o_ishl (X : Stand p l e R s m args below meth c T locs cells slots) (hx : p.tables.exec = Jvm.exec) {x y : Int32} (hd : decode c.code pc = .ok (.ishl, 1)) (hp : pc + 1 = pc') (kk : Goes p.tables e below P (T.setTop (mkF m pc' L (.int (x <<< (y &&& 31)) :: S)))) : Goes p.tables e below P (T.setTop (mkF m pc L (.int y :: .int x :: S))) := by
  subst hp; exact kk.on fun _ k => XS.ishl X.here hx rfl hd rfl k
theorem o_ishr (X : Stand p l e R s m args below meth c T locs cells slots) (hx : p.tables.exec = Jvm.exec) {x y : Int32} (hd : decode c.code pc = .ok (.ishr, 1)) (hp : pc + 1 = pc') (kk : Goes p.tables e below P (T.setTop (mkF m pc' L (.int (x >>> (y &&& 31)) :: S)))) : Goes p.tables e below P (T.setTop (mkF m pc L (.int y :: .int x :: S))) := by
  subst hp; exact kk.on fun _ k => XS.ishr X.here hx rfl hd rfl k
theorem o_iushr (X : Stand p l e R s m args below meth c T locs cells slots) (hx : p.tables.exec = Jvm.exec) {x y : Int32} (hd : decode c.code pc = .ok (.iushr, 1)) (hp : pc + 1 = pc') (kk : Goes p.tables e below P (T.setTop (mkF m pc' L (.int ((x.toUInt32 >>> (y &&& 31).toUInt32).toInt32) :: S)))) : Goes p.tables e below P (T.setTop (mkF m pc L (.int y :: .int x :: S))) := by
  subst hp; exact kk.on fun _ k => XS.iushr X.here hx rfl hd rfl k
theorem o_ladd (X : Stand p l e R s m args below meth c T locs cells slots) (hx : p.tables.exec = Jvm.exec) {x y : Int64} (hd : decode c.code pc = .ok (.ladd, 1)) (hp : pc + 1 = pc') (kk : Goes p.tables e below P (T.setTop (mkF m pc' L (.long (x + y) :: S)))) : Goes p.tables e below P (T.setTop (mkF m pc L (.long y :: .long x :: S))) := by
  subst hp; exact kk.on fun _ k => XS.ladd X.here hx rfl hd rfl k
theorem o_lsub (X : Stand p l e R s m args below meth c T locs cells slots) (hx : p.tables.exec = Jvm.exec) {x y : Int64} (hd : decode c.code pc = .ok (.lsub, 1)) (hp : pc + 1 = pc') (kk : Goes p.tables e below P (T.setTop (mkF m pc' L (.long (x - y) :: S)))) : Goes p.tables e below P (T.setTop (mkF m pc L (.long y :: .long x :: S))) := by
  subst hp; exact kk.on fun _ k => XS.lsub X.here hx rfl hd rfl k
theorem o_lmul (X : Stand p l e R s m args below meth c T locs cells slots) (hx : p.tables.exec = Jvm.exec) {x y : Int64} (hd : decode c.code pc = .ok (.lmul, 1)) (hp : pc + 1 = pc') (kk : Goes p.tables e below P (T.setTop (mkF m pc' L (.long (x * y) :: S)))) : Goes p.tables e below P (T.setTop (mkF m pc L (.long y :: .long x :: S))) := by
  subst hp; exact kk.on fun _ k => XS.lmul X.here hx rfl hd rfl k
theorem o_land (X : Stand p l e R s m args below meth c T locs cells slots) (hx : p.tables.exec = Jvm.exec) {x y : Int64} (hd : decode c.code pc = .ok (.land, 1)) (hp : pc + 1 = pc') (kk : Goes p.tables e below P (T.setTop (mkF m pc' L (.long (x &&& y) :: S)))) : Goes p.tables e below P (T.setTop (mkF m pc L (.long y :: .long x :: S))) := by
  subst hp; exact kk.on fun _ k => XS.land X.here hx rfl hd rfl k
theorem o_lor (X : Stand p l e R s m args below meth c T locs cells slots) (hx : p.tables.exec = Jvm.exec) {x y : Int64} (hd : decode c.code pc = .ok (.lor, 1)) (hp : pc + 1 = pc') (kk : Goes p.tables e below P (T.setTop (mkF m pc' L (.long (x ||| y) :: S)))) : Goes p.tables e below P (T.setTop (mkF m pc L (.long y :: .long x :: S))) := by
  subst hp; exact kk.on fun _ k => XS.lor X.here hx rfl hd rfl k
theorem o_lxor (X : Stand p l e R s m args below meth c T locs cells slots) (hx : p.tables.exec = Jvm.exec) {x y : Int64} (hd : decode c.code pc = .ok (.lxor, 1)) (hp : pc + 1 = pc') (kk : Goes p.tables e below P (T.setTop (mkF m pc' L (.long (x ^^^ y) :: S)))) : Goes p.tables e below P (T.setTop (mkF m pc L (.long y :: .long x :: S))) := by
  subst hp; exact kk.on fun _ k => XS.lxor X.here hx rfl hd rfl k
theorem o_lshl (X : Stand p l e R s m args below meth c T locs cells slots) (hx : p.tables.exec = Jvm.exec) {x : Int64} {y : Int32} (hd : decode c.code pc = .ok (.lshl, 1)) (hp : pc + 1 = pc') (kk : Goes p.tables e below P (T.setTop (mkF m pc' L (.long (x <<< (y &&& 0x3f).toInt64) :: S)))) : Goes p.tables e below P (T.setTop (mkF m pc L (.int y :: .long x :: S))) := by
  subst hp; exact kk.on fun _ k => XS.lshl X.here hx rfl hd rfl k
theorem o_lshr (X : Stand p l e R s m args below meth c T locs cells slots) (hx : p.tables.exec = Jvm.exec) {x : Int64} {y : Int32} (hd : decode c.code pc = .ok (.lshr, 1)) (hp : pc + 1 = pc') (kk : Goes p.tables e below P (T.setTop (mkF m pc' L (.long (x >>> (y &&& 0x3f).toInt64) :: S)))) : Goes p.tables e below P (T.setTop (mkF m pc L (.int y :: .long x :: S))) := by
  subst hp; exact kk.on fun _ k => XS.lshr X.here hx rfl hd rfl k
theorem o_lushr (X : Stand p l e R s m args below meth c T locs cells slots) (hx : p.tables.exec = Jvm.exec) {x : Int64} {y : Int32} (hd : decode c.code pc = .ok (.lushr, 1)) (hp : pc + 1 = pc') (kk : Goes p.tables e below P (T.setTop (mkF m pc' L (.long ((x.toUInt64 >>> (y &&& 0x3f).toInt64.toUInt64).toInt64) :: S)))) : Goes p.tables e below P (T.setTop (mkF m pc L (.int y :: .long x :: S))) := by
  subst hp; exact kk.on fun _ k => XS.lushr X.here hx rfl hd rfl k
theorem o_idiv (X : Stand p l e R s m args below meth c T locs cells slots) (hx : p.tables.exec = Jvm.exec) {x y : Int32} (hd : decode c.code pc = .ok (.idiv, 1)) (hy : y ≠ 0) (hp : pc + 1 = pc') (kk : Goes p.tables e below P (T.setTop (mkF m pc' L (.int (x / y) :: S)))) : Goes p.tables e below P (T.setTop (mkF m pc L (.int y :: .int x :: S))) := by
  subst hp; exact kk.on fun _ k => XS.idiv X.here hx rfl hd rfl hy k
theorem o_ldiv (X : Stand p l e R s m args below meth c T locs cells slots) (hx : p.tables.exec = Jvm.exec) {x y : Int64} (hd : decode c.code pc = .ok (.ldiv, 1)) (hy : y ≠ 0) (hp : pc + 1 = pc') (kk : Goes p.tables e below P (T.setTop (mkF m pc' L (.long (x / y) :: S)))) : Goes p.tables e below P (T.setTop (mkF m pc L (.long y :: .long x :: S))) := by
  subst hp; exact kk.on fun _ k => XS.ldiv X.here hx rfl hd rfl hy k
theorem o_lrem (X : Stand p l e R s m args below meth c T locs cells slots) (hx : p.tables.exec = Jvm.exec) {x y : Int64} (hd : decode c.code pc = .ok (.lrem, 1)) (hy : y ≠ 0) (hp : pc + 1 = pc') (kk : Goes p.tables e below P (T.setTop (mkF m pc' L (.long (x - (x / y) * y) :: S)))) : Goes p.tables e below P (T.setTop (mkF m pc L (.long y :: .long x :: S))) := by
  subst hp; exact kk.on fun _ k => XS.lrem X.here hx rfl hd rfl hy k
theorem o_irem (X : Stand p l e R s m args below meth c T locs cells slots) (hx : p.tables.exec = Jvm.exec) {x y : Int32} (hd : decode c.code pc = .ok (.irem, 1)) (hy : y ≠ 0) (hp : pc + 1 = pc') (kk : Goes p.tables e below P (T.setTop (mkF m pc' L (.int (x % y) :: S)))) : Goes p.tables e below P (T.setTop (mkF m pc L (.int y :: .int x :: S))) := by
  subst hp; exact kk.on fun _ k => iremM X hx rfl hd rfl hy k
theorem o_i2l (X : Stand p l e R s m args below meth c T locs cells slots) (hx : p.tables.exec = Jvm.exec) {x : Int32} (hd : decode c.code pc = .ok (.i2l, 1)) (hp : pc + 1 = pc') (kk : Goes p.tables e below P (T.setTop (mkF m pc' L (.long (x.toInt64) :: S)))) : Goes p.tables e below P (T.setTop (mkF m pc L (.int x :: S))) := by
  subst hp; exact kk.on fun _ k => XS.i2l X.here hx rfl hd rfl k
theorem o_l2i (X : Stand p l e R s m args below meth c T locs cells slots) (hx : p.tables.exec = Jvm.exec) {x : Int64} (hd : decode c.code pc = .ok (.l2i, 1)) (hp : pc + 1 = pc') (kk : Goes p.tables e below P (T.setTop (mkF m pc' L (.int (x.toInt32) :: S)))) : Goes p.tables e below P (T.setTop (mkF m pc L (.long x :: S))) := by
  subst hp; exact kk.on fun _ k => XS.l2i X.here hx rfl hd rfl k
theorem o_i2b (X : Stand p l e R s m args below meth c T locs cells slots) (hx : p.tables.exec = Jvm.exec) {x : Int32} (hd : decode c.code pc = .ok (.i2b, 1)) (hp : pc + 1 = pc') (kk : Goes p.tables e below P (T.setTop (mkF m pc' L (.int (x.toInt8.toInt32) :: S)))) : Goes p.tables e below P (T.setTop (mkF m pc L (.int x :: S))) := by
  subst hp; exact kk.on fun _ k => XS.i2b X.here hx rfl hd rfl k
theorem o_i2s (X : Stand p l e R s m args below meth c T locs cells slots) (hx : p.tables.exec = Jvm.exec) {x : Int32} (hd : decode c.code pc = .ok (.i2s, 1)) (hp : pc + 1 = pc') (kk : Goes p.tables e below P (T.setTop (mkF m pc' L (.int (x.toInt16.toInt32) :: S)))) : Goes p.tables e below P (T.setTop (mkF m pc L (.int x :: S))) := by
  subst hp; exact kk.on fun _ k => XS.i2s X.here hx rfl hd rfl k
theorem o_i2c (X : Stand p l e R s m args below meth c T locs cells slots) (hx : p.tables.exec = Jvm.exec) {x : Int32} (hd : decode c.code pc = .ok (.i2c, 1)) (hp : pc + 1 = pc') (kk : Goes p.tables e below P (T.setTop (mkF m pc' L (.int (x.toUInt32.toUInt16.toUInt32.toInt32) :: S)))) : Goes p.tables e below P (T.setTop (mkF m pc L (.int x :: S))) := by
  subst hp; exact kk.on fun _ k => XS.i2c X.here hx rfl hd rfl k
theorem o_ineg (X : Stand p l e R s m args below meth c T locs cells slots) (hx : p.tables.exec = Jvm.exec) {x : Int32} (hd : decode c.code pc = .ok (.ineg, 1)) (hp : pc + 1 = pc') (kk : Goes p.tables e below P (T.setTop (mkF m pc' L (.int (-x) :: S)))) : Goes p.tables e below P (T.setTop (mkF m pc L (.int x :: S))) := by
  subst hp; exact kk.on fun _ k => XS.ineg X.here hx rfl hd rfl k
theorem o_lneg (X : Stand p l e R s m args below meth c T locs cells slots) (hx : p.tables.exec = Jvm.exec) {x : Int64} (hd : decode c.code pc = .ok (.lneg, 1)) (hp : pc + 1 = pc') (kk : Goes p.tables e below P (T.setTop (mkF m pc' L (.long (-x) :: S)))) : Goes p.tables e below P (T.setTop (mkF m pc L (.long x :: S))) := by
  subst hp; exact kk.on fun _ k => XS.lneg X.here hx rfl hd rfl k
theorem o_lcmp (X : Stand p l e R s m args below meth c T locs cells slots) (hx : p.tables.exec = Jvm.exec) {x y : Int64} (hd : decode c.code pc = .ok (.lcmp, 1)) (hp : pc + 1 = pc') (kk : Goes p.tables e below P (T.setTop (mkF m pc' L (.int (lcmpW x y) :: S)))) : Goes p.tables e below P (T.setTop (mkF m pc L (.long y :: .long x :: S))) := by
  subst hp; exact kk.on fun _ k => XS.lcmp X.here hx rfl hd rfl k
theorem o_dup (X : Stand p l e R s m args below meth c T locs cells slots) (hx : p.tables.exec = Jvm.exec) {x : Value} (hd : decode c.code pc = .ok (.dup, 1)) (hc : x.category = 1) (hp : pc + 1 = pc') (kk : Goes p.tables e below P (T.setTop (mkF m pc' L (x :: x :: S)))) : Goes p.tables e below P (T.setTop (mkF m pc L (x :: S))) := by
  subst hp; exact kk.on fun _ k => XS.dup X.here hx rfl hd rfl hc k
theorem o_pop (X : Stand p l e R s m args below meth c T locs cells slots) (hx : p.tables.exec = Jvm.exec) {x : Value} (hd : decode c.code pc = .ok (.pop, 1)) (hc : x.category = 1) (hp : pc + 1 = pc') (kk : Goes p.tables e below P (T.setTop (mkF m pc' L S))) : Goes p.tables e below P (T.setTop (mkF m pc L (x :: S))) := by
  subst hp; exact kk.on fun _ k => XS.pop X.here hx rfl hd rfl hc k
theorem o_dup2 (X : Stand p l e R s m args below meth c T locs cells slots) (hx : p.tables.exec = Jvm.exec) {x y : Value} (hd : decode c.code pc = .ok (.dup2, 1)) (hc : x.category = 1) (hc2 : y.category = 1) (hp : pc + 1 = pc') (kk : Goes p.tables e below P (T.setTop (mkF m pc' L (x :: y :: x :: y :: S)))) : Goes p.tables e below P (T.setTop (mkF m pc L (x :: y :: S))) := by
  subst hp; exact kk.on fun _ k => Jvm.Free.XT.dup2 X.here hx rfl hd rfl hc hc2 k
theorem o_dupX1 (X : Stand p l e R s m args below meth c T locs cells slots) (hx : p.tables.exec = Jvm.exec) {x y : Value} (hd : decode c.code pc = .ok (.dup_x1, 1)) (hc : x.category = 1) (hc2 : y.category = 1) (hp : pc + 1 = pc') (kk : Goes p.tables e below P (T.setTop (mkF m pc' L (x :: y :: x :: S)))) : Goes p.tables e below P (T.setTop (mkF m pc L (x :: y :: S))) := by
  subst hp; exact kk.on fun _ k => XS.dupX1 X.here hx rfl hd rfl hc hc2 k
theorem o_iinc (X : Stand p l e R s m args below meth c T locs cells slots) (hx : p.tables.exec = Jvm.exec) {k : Nat} {cst : Int} {x v : Int32} (hd : decode c.code pc = .ok (.iinc k cst, 3)) (hl : L[k]? = some (.val (.int x))) (hv : x + Int32.ofInt cst = v) (hl' : storeLocals L k (.int v) = some L') (hp : pc + 3 = pc') (kk : Goes p.tables e below P (T.setTop (mkF m pc' L' S))) : Goes p.tables e below P (T.setTop (mkF m pc L S)) := by
  subst hp; subst hv; exact kk.on fun _ k => XS.iinc X.here hx rfl hd hl hl' k
theorem o_goto (X : Stand p l e R s m args below meth c T locs cells slots) (hx : p.tables.exec = Jvm.exec)  {o : Int} (hd : decode c.code pc = .ok (.goto o, 3)) (ho : 0 ≤ (pc : Int) + o) (hp : ((pc : Int) + o).toNat = pc') (kk : Goes p.tables e below P (T.setTop (mkF m pc' L S))) : Goes p.tables e below P (T.setTop (mkF m pc L S)) :=
  kk.on fun _ k => XS.goto X.here hx rfl (pc0 := pc) rfl hd  ho hp k
theorem o_ifYes (X : Stand p l e R s m args below meth c T locs cells slots) (hx : p.tables.exec = Jvm.exec) {cd : ClassFile.Cond} {x : Int32} {o : Int} (hd : decode c.code pc = .ok (.ifCond cd o, 3)) (hc : ifCond.holds cd x = true) (ho : 0 ≤ (pc : Int) + o) (hp : ((pc : Int) + o).toNat = pc') (kk : Goes p.tables e below P (T.setTop (mkF m pc' L S))) : Goes p.tables e below P (T.setTop (mkF m pc L (.int x :: S))) :=
  kk.on fun _ k => XS.ifYes X.here hx rfl (pc0 := pc) rfl hd rfl hc ho hp k
theorem o_icmpYes (X : Stand p l e R s m args below meth c T locs cells slots) (hx : p.tables.exec = Jvm.exec) {cd : ClassFile.Cond} {x y : Int32} {o : Int} (hd : decode c.code pc = .ok (.if_icmp cd o, 3)) (hc : if_icmp.holds cd x y = true) (ho : 0 ≤ (pc : Int) + o) (hp : ((pc : Int) + o).toNat = pc') (kk : Goes p.tables e below P (T.setTop (mkF m pc' L S))) : Goes p.tables e below P (T.setTop (mkF m pc L (.int y :: .int x :: S))) :=
  kk.on fun _ k => XS.icmpYes X.here hx rfl (pc0 := pc) rfl hd rfl hc ho hp k
theorem o_ifnullYes (X : Stand p l e R s m args below meth c T locs cells slots) (hx : p.tables.exec = Jvm.exec)  {o : Int} (hd : decode c.code pc = .ok (.ifnull o, 3)) (ho : 0 ≤ (pc : Int) + o) (hp : ((pc : Int) + o).toNat = pc') (kk : Goes p.tables e below P (T.setTop (mkF m pc' L S))) : Goes p.tables e below P (T.setTop (mkF m pc L (.null :: S))) :=
  kk.on fun _ k => XS.ifnullYes X.here hx rfl (pc0 := pc) rfl hd rfl ho hp k
theorem o_ifnonnullYes (X : Stand p l e R s m args below meth c T locs cells slots) (hx : p.tables.exec = Jvm.exec) {b : Addr} {o : Int} (hd : decode c.code pc = .ok (.ifnonnull o, 3)) (ho : 0 ≤ (pc : Int) + o) (hp : ((pc : Int) + o).toNat = pc') (kk : Goes p.tables e below P (T.setTop (mkF m pc' L S))) : Goes p.tables e below P (T.setTop (mkF m pc L (.ref b :: S))) :=
  kk.on fun _ k => XS.ifnonnullYes X.here hx rfl (pc0 := pc) rfl hd rfl ho hp k
theorem o_ifNo (X : Stand p l e R s m args below meth c T locs cells slots) (hx : p.tables.exec = Jvm.exec) {cd : ClassFile.Cond} {o : Int} {x : Int32} (hd : decode c.code pc = .ok (.ifCond cd o, 3)) (hc : ifCond.holds cd x = false) (hp : pc + 3 = pc') (kk : Goes p.tables e below P (T.setTop (mkF m pc' L S))) : Goes p.tables e below P (T.setTop (mkF m pc L (.int x :: S))) := by
  subst hp; exact kk.on fun _ k => XS.ifNo X.here hx rfl hd rfl hc k
theorem o_icmpNo (X : Stand p l e R s m args below meth c T locs cells slots) (hx : p.tables.exec = Jvm.exec) {cd : ClassFile.Cond} {o : Int} {x y : Int32} (hd : decode c.code pc = .ok (.if_icmp cd o, 3)) (hc : if_icmp.holds cd x y = false) (hp : pc + 3 = pc') (kk : Goes p.tables e below P (T.setTop (mkF m pc' L S))) : Goes p.tables e below P (T.setTop (mkF m pc L (.int y :: .int x :: S))) := by
  subst hp; exact kk.on fun _ k => XS.icmpNo X.here hx rfl hd rfl hc k
theorem o_ifnullNo (X : Stand p l e R s m args below meth c T locs cells slots) (hx : p.tables.exec = Jvm.exec) {o : Int} {b : Addr} (hd : decode c.code pc = .ok (.ifnull o, 3)) (hp : pc + 3 = pc') (kk : Goes p.tables e below P (T.setTop (mkF m pc' L S))) : Goes p.tables e below P (T.setTop (mkF m pc L (.ref b :: S))) := by
  subst hp; exact kk.on fun _ k => XS.ifnullNo X.here hx rfl hd rfl k
theorem o_ifnonnullNo (X : Stand p l e R s m args below meth c T locs cells slots) (hx : p.tables.exec = Jvm.exec) {o : Int} (hd : decode c.code pc = .ok (.ifnonnull o, 3)) (hp : pc + 3 = pc') (kk : Goes p.tables e below P (T.setTop (mkF m pc' L S))) : Goes p.tables e below P (T.setTop (mkF m pc L (.null :: S))) := by
  subst hp; exact kk.on fun _ k => XS.ifnonnullNo X.here hx rfl hd rfl k
theorem o_acmp (X : Stand p l e R s m args below meth c T locs cells slots) (hx : p.tables.exec = Jvm.exec) {cd : ACond} {x y : Value} {o : Int} {same : Bool} (hd : decode c.code pc = .ok (.if_acmp cd o, 3)) (h1 : x.isRef = true) (h2 : y.isRef = true) (hq : decide (x = y) = same) (ho : 0 ≤ (pc : Int) + o) (hp : pc' = if acV cd same = true then ((pc : Int) + o).toNat else pc + 3) (kk : Goes p.tables e below P (T.setTop (mkF m pc' L S))) : Goes p.tables e below P (T.setTop (mkF m pc L (y :: x :: S))) :=
  kk.on fun _ k => Jvm.RoadKit.acmp (g := mkF m pc L (y :: x :: S)) X hx rfl h1 h2 (pc0 := pc) (pc' := pc') (same := same) rfl hd rfl hq ho hp k
theorem o_tswIn (X : Stand p l e R s m args below meth c T locs cells slots) (hx : p.tables.exec = Jvm.exec) {dflt low high : Int} {offs : Array Int} {len : Nat} {o : Int} {i : Int32} (hd : decode c.code pc = .ok (.tableswitch dflt low high offs, len)) (hin : ¬ (i.toInt < low ∨ i.toInt > high)) (hoff : offs[(i.toInt - low).toNat]? = some o) (ho : 0 ≤ (pc : Int) + o) (hp : ((pc : Int) + o).toNat = pc') (kk : Goes p.tables e below P (T.setTop (mkF m pc' L S))) : Goes p.tables e below P (T.setTop (mkF m pc L (.int i :: S))) :=
  kk.on fun _ k => XS.tswIn X.here hx rfl (pc0 := pc) rfl hd rfl hin hoff ho hp k
theorem o_tswOut (X : Stand p l e R s m args below meth c T locs cells slots) (hx : p.tables.exec = Jvm.exec) {dflt low high : Int} {offs : Array Int} {len : Nat} {i : Int32} (hd : decode c.code pc = .ok (.tableswitch dflt low high offs, len)) (hout : i.toInt < low ∨ i.toInt > high) (ho : 0 ≤ (pc : Int) + dflt) (hp : ((pc : Int) + dflt).toNat = pc') (kk : Goes p.tables e below P (T.setTop (mkF m pc' L S))) : Goes p.tables e below P (T.setTop (mkF m pc L (.int i :: S))) :=
  kk.on fun _ k => XS.tswOut X.here hx rfl (pc0 := pc) rfl hd rfl hout ho hp k
theorem o_getF (X : Stand p l e R s m args below meth c T locs cells slots) (hx : p.tables.exec = Jvm.exec) (hZ : Z.Warmed39 s.vm) {own R0 O n d host : String} {index : Nat} (hown : s.vm.findClass own = some m.cls) (w : (Cond.fieldLink own index R0 n d).before a0 Z = true ∨ (Cond.fieldLinkNest own index R0 n d host).before a0 Z = true) (via : Via Z R0 O n d) (eT : T.heap = h) {a : Addr} {v : Value} (F : Fld Z h a O n d v) (hd : decode c.code pc = .ok (.getfield index, 3)) (hp : pc + 3 = pc')
    (kk : ∀ T', Stand p l e R s m args below meth c T' locs cells slots → T'.heap = h → Goes p.tables e below P (T'.setTop (mkF m pc' L (v :: S)))) : Goes p.tables e below P (T.setTop (mkF m pc L (.ref a :: S))) := by
  subst hp
  obtain ⟨T', X', e', st⟩ := getF X hx hZ hown w via eT F (g := mkF m pc L (.ref a :: S)) rfl rfl hd
  exact (kk T' X' e').on st
theorem o_getS (X : Stand p l e R s m args below meth c T locs cells slots) (hx : p.tables.exec = Jvm.exec) (hZ : Z.Warmed39 s.vm) {own R0 O n d host : String} {index : Nat} (hown : s.vm.findClass own = some m.cls) (w : (Cond.fieldLink own index R0 n d).before a0 Z = true ∨ (Cond.fieldLinkNest own index R0 n d host).before a0 Z = true) (via : Via Z R0 O n d) (eT : T.heap = h) {v : Value} (F : Sta Z h O n d v) (hd : decode c.code pc = .ok (.getstatic index, 3)) (hp : pc + 3 = pc')
    (kk : ∀ T', Stand p l e R s m args below meth c T' locs cells slots → T'.heap = h → Goes p.tables e below P (T'.setTop (mkF m pc' L (v :: S)))) : Goes p.tables e below P (T.setTop (mkF m pc L S)) := by
  subst hp
  obtain ⟨T', X', e', st⟩ := getS2 X hx hZ hown w via eT F (g := mkF m pc L S) rfl hd
  exact (kk T' X' e').on st
theorem o_putF (X : Stand p l e R s m args below meth c T locs cells slots) (hx : p.tables.exec = Jvm.exec) (hZ : Z.Warmed39 s.vm) {own R0 O n d host C : String} {index kk0 : Nat} {ty : FieldType} (hown : s.vm.findClass own = some m.cls) (w : (Cond.fieldLink own index R0 n d).before a0 Z = true ∨ (Cond.fieldLinkNest own index R0 n d host).before a0 Z = true) (via : Via Z R0 O n d) (eT : T.heap = h) {a : Addr} {v old : Value} (F : Fld Z h a O n d old) (E : Exa Z h a C) (Lw : (Cond.lays C O n d).before a0 Z = true ∨ ((Cond.laysFinal C O n d).before a0 Z = true ∧ own = O ∧ meth.name = "<init>")) (wi : (Cond.instantiable C kk0).before a0 Z = true)
    (hty : parseFieldDescriptor d = some ty) (hn : narrow ty v = v) (hf : fits ty v = true) (hd : decode c.code pc = .ok (.putfield index, 3)) (hp : pc + 3 = pc')
    (kk : ∀ T' h', Stand p l e R s m args below meth c T' (locs ++ [⟨a, Jvm.RoadKit.slotOf Z O n d⟩]) cells slots → T'.heap = h' → Wr h h' a (Jvm.RoadKit.slotOf Z O n d) v → Goes p.tables e below P (T'.setTop (mkF m pc' L S))) : Goes p.tables e below P (T.setTop (mkF m pc L (v :: .ref a :: S))) := by
  subst hp
  obtain ⟨T', h', X', e', W', st⟩ := putF X hx hZ hown w via eT F E Lw wi hty hn hf (g := mkF m pc L (v :: .ref a :: S)) rfl rfl hd
  exact (kk T' h' X' e' W').on st
theorem o_new (X : Stand p l e R s m args below meth c T locs cells slots) (hx : p.tables.exec = Jvm.exec) (hZ : Z.Warmed39 s.vm) {own C : String} {index n : Nat} (hown : s.vm.findClass own = some m.cls) (w : (Cond.classLink own index C).before a0 Z = true) (wi : (Cond.instantiable C n).before a0 Z = true) (wz : (Cond.initialized C).before a0 Z = true) (eT : T.heap = h) (hd : decode c.code pc = .ok (.new index, 3)) (hc : cells + 1 ≤ R.cells) (hl : slots + n ≤ R.slots) (hc' : cells + 1 = cells') (hs' : slots + n = slots') (hp : pc + 3 = pc')
    (kk : ∀ T' h' b, b = h.size → Stand p l e R s m args below meth c T' locs cells' slots' → T'.heap = h' → Ext h h' → Exa Z h' b C → (∀ {O nm d : String} {ty : FieldType}, Laid Z a0 C O nm d → parseFieldDescriptor d = some ty → Fld Z h' b O nm d (defaultValue ty)) → Goes p.tables e below P (T'.setTop (mkF m pc' L (.ref b :: S)))) : Goes p.tables e below P (T.setTop (mkF m pc L S)) := by
  subst hp hc' hs'
  obtain ⟨T', h', X', e', E', A', D', -, st⟩ := newO X hx hZ hown w wi wz eT (g := mkF m pc L S) rfl hd hc hl
  exact (kk T' h' _ rfl X' e' E' A' D').on st
theorem o_newP (X : Stand p l e R s m args below meth c T locs cells slots) (hx : p.tables.exec = Jvm.exec) (hZ : Z.Warmed39 s.vm) {aty : ArrayType} (w : (Cond.arrayClass (newarray.typeOf aty)).before a0 Z = true) (eT : T.heap = h) (hd : decode c.code pc = .ok (.newarray aty, 2)) {n : Int32} (hn : ¬ n < 0) {cap : Nat} (hcap : n.toNatClampNeg ≤ cap) (hb : cap * 8 ≤ 536870912) (hc : cells + 1 ≤ R.cells) (hl : slots + cap ≤ R.slots) (hc' : cells + 1 = cells') (hs' : slots + cap = slots') (hp : pc + 2 = pc')
    (kk : ∀ T' h' k b, b = h.size → Stand p l e R s m args below meth c T' locs cells' slots' → T'.heap = h' → Ext h h' → Arr Z h' b (newA k (newarray.typeOf aty) n) (newarray.typeOf aty) → Goes p.tables e below P (T'.setTop (mkF m pc' L (.ref b :: S)))) : Goes p.tables e below P (T.setTop (mkF m pc L (.int n :: S))) := by
  subst hp hc' hs'
  obtain ⟨T', h', k, X', e', E', A', st⟩ := newP X hx hZ w eT (g := mkF m pc L (.int n :: S)) rfl hd rfl hn hcap hb hc hl
  exact (kk T' h' k _ rfl X' e' E' A').on st
theorem o_initO (X : Stand p l e R s m args below meth c T locs cells slots) (hx : p.tables.exec = Jvm.exec) (hZ : Z.Warmed39 s.vm) {own : String} {idx : Nat} (hown : s.vm.findClass own = some m.cls) (w1 : (Cond.methodLink own idx Lib.objectInit).before a0 Z = true) (w2 : (Cond.instanceMethod Lib.objectInit).before a0 Z = true) (w3 : (Cond.code Lib.objectInit ⟨#[0xb1]⟩ 1 none).before a0 Z = true) (eT : T.heap = h) (hsize : L.size = c.maxLocals) {a : Addr} (hd : decode c.code pc = .ok (.invokespecial idx, 3)) (hf : 1 ≤ R.frames) {W : Nat} (hW : (S.map fun v => v.category).sum = W) (hl : W + 12 ≤ R.locals) (hp : pc + 3 = pc')
    (kk : ∀ T', Stand p l e R s m args below meth c T' locs cells slots → T'.heap = h → Goes p.tables e below P (T'.setTop (mkF m pc' L S))) : Goes p.tables e below P (T.setTop (mkF m pc L (.ref a :: S))) := by
  subst hp
  obtain ⟨T', X', e', st⟩ := initO X hx hZ hown w1 w2 w3 eT (g := mkF m pc L (.ref a :: S)) rfl hsize rfl hd hf (W := W) (by rw [← hW]; show 2 * 0 + _ ≤ _; omega) hl
  exact (kk T' X' e').on st
theorem o_stI (X : Stand p l e R s m args below meth c T locs cells slots) (hx : p.tables.exec = Jvm.exec) (hZ : Z.Warmed39 s.vm) (eT : T.heap = h) {a : Addr} {kc : ClassId} {z : Int32} {vs : List Value} {dv : Value} (A : Arv Z h a kc .int z vs dv) {j : Int32} {x : Int32} {i : Nat} (hj : ¬ j < 0 ∧ j < z) (hi : j.toNatClampNeg = i) (hv : i < vs.length) (hd : decode c.code pc = .ok (.iastore, 1)) (hp : pc + 1 = pc')
    (kk : ∀ T' h', Stand p l e R s m args below meth c T' (locs ++ [⟨a, i⟩]) cells slots → T'.heap = h' → Wr h h' a i (.int x) → Arv Z h' a kc .int z (vs.set i (.int x)) dv → Goes p.tables e below P (T'.setTop (mkF m pc' L S))) : Goes p.tables e below P (T.setTop (mkF m pc L ((.int x) :: .int j :: .ref a :: S))) := by
  subst hp
  obtain ⟨cl, A1, q1, S1, N1, H1, G1⟩ := A
  obtain ⟨T', h', X', e', W', st⟩ := stI X hx hZ eT A1 (j := j) (x := x) (inb_of S1 hj) (g := mkF m pc L ((.int x) :: .int j :: .ref a :: S)) rfl rfl hd
  have V' := Arv.set A1 q1 S1 N1 H1 G1 (rfl) W' i hi hv
  rw [hi] at X' W'
  exact (kk T' h' X' e' W' V').on st
theorem o_stJ (X : Stand p l e R s m args below meth c T locs cells slots) (hx : p.tables.exec = Jvm.exec) (hZ : Z.Warmed39 s.vm) (eT : T.heap = h) {a : Addr} {kc : ClassId} {z : Int32} {vs : List Value} {dv : Value} (A : Arv Z h a kc .long z vs dv) {j : Int32} {x : Int64} {i : Nat} (hj : ¬ j < 0 ∧ j < z) (hi : j.toNatClampNeg = i) (hv : i < vs.length) (hd : decode c.code pc = .ok (.lastore, 1)) (hp : pc + 1 = pc')
    (kk : ∀ T' h', Stand p l e R s m args below meth c T' (locs ++ [⟨a, i⟩]) cells slots → T'.heap = h' → Wr h h' a i (.long x) → Arv Z h' a kc .long z (vs.set i (.long x)) dv → Goes p.tables e below P (T'.setTop (mkF m pc' L S))) : Goes p.tables e below P (T.setTop (mkF m pc L ((.long x) :: .int j :: .ref a :: S))) := by
  subst hp
  obtain ⟨cl, A1, q1, S1, N1, H1, G1⟩ := A
  obtain ⟨T', h', X', e', W', st⟩ := stJ X hx hZ eT A1 (j := j) (x := x) (inb_of S1 hj) (g := mkF m pc L ((.long x) :: .int j :: .ref a :: S)) rfl rfl hd
  have V' := Arv.set A1 q1 S1 N1 H1 G1 (rfl) W' i hi hv
  rw [hi] at X' W'
  exact (kk T' h' X' e' W' V').on st
theorem o_stC (X : Stand p l e R s m args below meth c T locs cells slots) (hx : p.tables.exec = Jvm.exec) (hZ : Z.Warmed39 s.vm) (eT : T.heap = h) {a : Addr} {kc : ClassId} {z : Int32} {vs : List Value} {dv : Value} (A : Arv Z h a kc .char z vs dv) {j : Int32} {x : Int32} {i : Nat} (hj : ¬ j < 0 ∧ j < z) (hi : j.toNatClampNeg = i) (hv : i < vs.length) (hd : decode c.code pc = .ok (.castore, 1)) (hp : pc + 1 = pc')
    (kk : ∀ T' h', Stand p l e R s m args below meth c T' (locs ++ [⟨a, i⟩]) cells slots → T'.heap = h' → Wr h h' a i (.int (nar .char x)) → Arv Z h' a kc .char z (vs.set i (.int (nar .char x))) dv → Goes p.tables e below P (T'.setTop (mkF m pc' L S))) : Goes p.tables e below P (T.setTop (mkF m pc L ((.int x) :: .int j :: .ref a :: S))) := by
  subst hp
  obtain ⟨cl, A1, q1, S1, N1, H1, G1⟩ := A
  obtain ⟨T', h', X', e', W', st⟩ := stC X hx hZ eT A1 (j := j) (x := x) (inb_of S1 hj) (g := mkF m pc L ((.int x) :: .int j :: .ref a :: S)) rfl rfl hd
  have V' := Arv.set A1 q1 S1 N1 H1 G1 (fits_nar_char _) W' i hi hv
  rw [hi] at X' W'
  exact (kk T' h' X' e' W' V').on st
theorem o_stB (X : Stand p l e R s m args below meth c T locs cells slots) (hx : p.tables.exec = Jvm.exec) (hZ : Z.Warmed39 s.vm) (eT : T.heap = h) {a : Addr} {kc : ClassId} {z : Int32} {vs : List Value} {dv : Value} (A : Arv Z h a kc .byte z vs dv) {j : Int32} {x : Int32} {i : Nat} (hj : ¬ j < 0 ∧ j < z) (hi : j.toNatClampNeg = i) (hv : i < vs.length) (hd : decode c.code pc = .ok (.bastore, 1)) (hp : pc + 1 = pc')
    (kk : ∀ T' h', Stand p l e R s m args below meth c T' (locs ++ [⟨a, i⟩]) cells slots → T'.heap = h' → Wr h h' a i (.int (nar .byte x)) → Arv Z h' a kc .byte z (vs.set i (.int (nar .byte x))) dv → Goes p.tables e below P (T'.setTop (mkF m pc' L S))) : Goes p.tables e below P (T.setTop (mkF m pc L ((.int x) :: .int j :: .ref a :: S))) := by
  subst hp
  obtain ⟨cl, A1, q1, S1, N1, H1, G1⟩ := A
  obtain ⟨T', h', X', e', W', st⟩ := stB X hx hZ eT A1 (j := j) (x := x) (inb_of S1 hj) (g := mkF m pc L ((.int x) :: .int j :: .ref a :: S)) rfl rfl hd
  have V' := Arv.set A1 q1 S1 N1 H1 G1 (fits_nar_byte _) W' i hi hv
  rw [hi] at X' W'
  exact (kk T' h' X' e' W' V').on st
theorem o_stZ (X : Stand p l e R s m args below meth c T locs cells slots) (hx : p.tables.exec = Jvm.exec) (hZ : Z.Warmed39 s.vm) (eT : T.heap = h) {a : Addr} {kc : ClassId} {z : Int32} {vs : List Value} {dv : Value} (A : Arv Z h a kc .boolean z vs dv) {j : Int32} {x : Int32} {i : Nat} (hj : ¬ j < 0 ∧ j < z) (hi : j.toNatClampNeg = i) (hv : i < vs.length) (hd : decode c.code pc = .ok (.bastore, 1)) (hp : pc + 1 = pc')
    (kk : ∀ T' h', Stand p l e R s m args below meth c T' (locs ++ [⟨a, i⟩]) cells slots → T'.heap = h' → Wr h h' a i (.int (nar .boolean x)) → Arv Z h' a kc .boolean z (vs.set i (.int (nar .boolean x))) dv → Goes p.tables e below P (T'.setTop (mkF m pc' L S))) : Goes p.tables e below P (T.setTop (mkF m pc L ((.int x) :: .int j :: .ref a :: S))) := by
  subst hp
  obtain ⟨cl, A1, q1, S1, N1, H1, G1⟩ := A
  obtain ⟨T', h', X', e', W', st⟩ := stZ X hx hZ eT A1 (j := j) (x := x) (inb_of S1 hj) (g := mkF m pc L ((.int x) :: .int j :: .ref a :: S)) rfl rfl hd
  have V' := Arv.set A1 q1 S1 N1 H1 G1 (fits_nar_bool _) W' i hi hv
  rw [hi] at X' W'
  exact (kk T' h' X' e' W' V').on st
theorem o_stD (X : Stand p l e R s m args below meth c T locs cells slots) (hx : p.tables.exec = Jvm.exec) (hZ : Z.Warmed39 s.vm) (eT : T.heap = h) {a : Addr} {kc : ClassId} {z : Int32} {vs : List Value} {dv : Value} (A : Arv Z h a kc .double z vs dv) {j : Int32} {x : UInt64} {i : Nat} (hj : ¬ j < 0 ∧ j < z) (hi : j.toNatClampNeg = i) (hv : i < vs.length) (hd : decode c.code pc = .ok (.dastore, 1)) (hp : pc + 1 = pc')
    (kk : ∀ T' h', Stand p l e R s m args below meth c T' (locs ++ [⟨a, i⟩]) cells slots → T'.heap = h' → Wr h h' a i (.double x) → Arv Z h' a kc .double z (vs.set i (.double x)) dv → Goes p.tables e below P (T'.setTop (mkF m pc' L S))) : Goes p.tables e below P (T.setTop (mkF m pc L ((.double x) :: .int j :: .ref a :: S))) := by
  subst hp
  obtain ⟨cl, A1, q1, S1, N1, H1, G1⟩ := A
  obtain ⟨T', h', X', e', W', st⟩ := stD X hx hZ eT A1 (j := j) (x := x) (inb_of S1 hj) (g := mkF m pc L ((.double x) :: .int j :: .ref a :: S)) rfl rfl hd
  have V' := Arv.set A1 q1 S1 N1 H1 G1 (rfl) W' i hi hv
  rw [hi] at X' W'
  exact (kk T' h' X' e' W' V').on st
theorem o_castY (X : Stand p l e R s m args below meth c T locs cells slots) (hx : p.tables.exec = Jvm.exec) (hZ : Z.Warmed39 s.vm) {own K : String} {index : Nat} (hown : s.vm.findClass own = some m.cls) (w : (Cond.classLink own index K).before a0 Z = true) (eT : T.heap = h) {a : Addr} (F : Ins Z h a K true) (hd : decode c.code pc = .ok (.checkcast index, 3)) (hp : pc + 3 = pc')
    (kk : ∀ T', Stand p l e R s m args below meth c T' locs cells slots → T'.heap = h → Goes p.tables e below P (T'.setTop (mkF m pc' L (.ref a :: S)))) : Goes p.tables e below P (T.setTop (mkF m pc L (.ref a :: S))) := by
  subst hp
  obtain ⟨T', X', e', st⟩ := castY X hx hZ hown w eT F (g := mkF m pc L (.ref a :: S)) rfl rfl hd
  exact (kk T' X' e').on st
theorem o_instY (X : Stand p l e R s m args below meth c T locs cells slots) (hx : p.tables.exec = Jvm.exec) (hZ : Z.Warmed39 s.vm) {own K : String} {index : Nat} (hown : s.vm.findClass own = some m.cls) (w : (Cond.classLink own index K).before a0 Z = true) (eT : T.heap = h) {a : Addr} (F : Ins Z h a K true) (hd : decode c.code pc = .ok (.instanceof index, 3)) (hp : pc + 3 = pc')
    (kk : ∀ T', Stand p l e R s m args below meth c T' locs cells slots → T'.heap = h → Goes p.tables e below P (T'.setTop (mkF m pc' L (.int 1 :: S)))) : Goes p.tables e below P (T.setTop (mkF m pc L (.ref a :: S))) := by
  subst hp
  obtain ⟨T', X', e', st⟩ := instY X hx hZ hown w eT F (g := mkF m pc L (.ref a :: S)) rfl rfl hd
  exact (kk T' X' e').on st
theorem o_instNo (X : Stand p l e R s m args below meth c T locs cells slots) (hx : p.tables.exec = Jvm.exec) (hZ : Z.Warmed39 s.vm) {own K C : String} {index : Nat} (hown : s.vm.findClass own = some m.cls) (w : (Cond.classLink own index K).before a0 Z = true) (eT : T.heap = h) {a : Addr} (E : Exa Z h a C) (F : ∃ c t, Z.vm.findClass C = some c ∧ Z.vm.findClass K = some t ∧ Z.vm.assignable c t = false) (hd : decode c.code pc = .ok (.instanceof index, 3)) (hp : pc + 3 = pc')
    (kk : ∀ T', Stand p l e R s m args below meth c T' locs cells slots → T'.heap = h → Goes p.tables e below P (T'.setTop (mkF m pc' L (.int 0 :: S)))) : Goes p.tables e below P (T.setTop (mkF m pc L (.ref a :: S))) := by
  subst hp
  obtain ⟨T', X', e', st⟩ := instNo X hx hZ hown w eT E F (g := mkF m pc L (.ref a :: S)) rfl rfl hd
  exact (kk T' X' e').on st
theorem o_static (X : Stand p l e R s m args below meth c T locs cells slots) (hx : p.tables.exec = Jvm.exec) (hZ : Z.Warmed39 s.vm) {own : String} {index : Nat} {y : MethodName} {bytes : ByteArray} {maxL : Nat} {ret : Option FieldType} (hown : s.vm.findClass own = some m.cls) (w1 : (Cond.methodLink own index y).before a0 Z = true) (w2 : (Cond.static y).before a0 Z = true) (hy : y.cls ≠ "java/lang/invoke/MethodHandle" ∧ y.cls ≠ "java/lang/invoke/VarHandle") {rm : Room} {as' : Array Value} {Q : Option Value → Heap → List Loc → Prop} (hM : Met l Z y bytes maxL ret rm [] as' h Q) (hwc : (Cond.code y bytes maxL ret).before a0 Z = true) (hwi : (Cond.initialized y.cls).before a0 Z = true) (eT : T.heap = h) (hsize : L.size = c.maxLocals) {argsL rest : List Value} {W : Nat} {ps : List FieldType} {rr : Option FieldType} (hpd : parseMethodDescriptor y.desc = some ⟨ps, rr⟩) (hlen : argsL.length = ps.length) (hst : S = argsL.reverse ++ rest) (has : as' = (argsL).toArray) (hW : (rest.map fun v => v.category).sum = W) (hd : decode c.code pc = .ok (.invokestatic index, 3)) (hf : rm.frames + 1 ≤ R.frames) (hlo : W + (maxL + 11) + rm.locals ≤ R.locals) (hc : cells + rm.cells ≤ R.cells) (hs : slots + rm.slots ≤ R.slots) (hc' : cells + rm.cells = cells') (hs' : slots + rm.slots = slots') (hp : pc + 3 = pc')
    (kk : ∀ v T' h' Lc, Stand p l e R s m args below meth c T' (locs ++ Lc) cells' slots' → T'.heap = h' → Q v h' Lc → Goes p.tables e below P (T'.setTop (mkF m pc' L (v.toList ++ rest)))) : Goes p.tables e below P (T.setTop (mkF m pc L S)) := by
  subst hp hc' hs' hst has
  obtain ⟨_, _, ⟨T1, L1, k1, n1⟩, -, X1, ⟨Lc, hQ, l1, y1, z1⟩, st⟩ := Jvm.LawKit.callS X hx hown (mvT hZ w1) (mvT hZ w2) (mvT hZ hwi) (mvT hZ hwc) hy (backOf (W := W) hM hZ hwc hwi hf hlo) (g := mkF m pc L (argsL.reverse ++ rest)) rfl hsize (argsL := argsL) (rest := rest) (lenOf hpd hlen) rfl (by rw [← hW]; show 2 * 0 + _ ≤ _; omega) hd (fun _ _ => ⟨rfl, eT, hc, hs⟩)
  dsimp only [Pt.U, Pt.locs, Pt.cells, Pt.slots] at X1 l1 y1 z1 st hQ
  subst l1 y1 z1
  exact (kk _ _ _ _ X1 rfl hQ).on st
theorem o_staticN (X : Stand p l e R s m args below meth c T locs cells slots) (hx : p.tables.exec = Jvm.exec) (hZ : Z.Warmed39 s.vm) {own host : String} {index : Nat} {y : MethodName} {bytes : ByteArray} {maxL : Nat} {ret : Option FieldType} (hown : s.vm.findClass own = some m.cls) (w1 : (Cond.methodLinkNest own index y host).before a0 Z = true) (w2 : (Cond.static y).before a0 Z = true) (hy : y.cls ≠ "java/lang/invoke/MethodHandle" ∧ y.cls ≠ "java/lang/invoke/VarHandle") {rm : Room} {as' : Array Value} {Q : Option Value → Heap → List Loc → Prop} (hM : Met l Z y bytes maxL ret rm [] as' h Q) (hwc : (Cond.code y bytes maxL ret).before a0 Z = true) (hwi : (Cond.initialized y.cls).before a0 Z = true) (eT : T.heap = h) (hsize : L.size = c.maxLocals) {argsL rest : List Value} {W : Nat} {ps : List FieldType} {rr : Option FieldType} (hpd : parseMethodDescriptor y.desc = some ⟨ps, rr⟩) (hlen : argsL.length = ps.length) (hst : S = argsL.reverse ++ rest) (has : as' = (argsL).toArray) (hW : (rest.map fun v => v.category).sum = W) (hd : decode c.code pc = .ok (.invokestatic index, 3)) (hf : rm.frames + 1 ≤ R.frames) (hlo : W + (maxL + 11) + rm.locals ≤ R.locals) (hc : cells + rm.cells ≤ R.cells) (hs : slots + rm.slots ≤ R.slots) (hc' : cells + rm.cells = cells') (hs' : slots + rm.slots = slots') (hp : pc + 3 = pc')
    (kk : ∀ v T' h' Lc, Stand p l e R s m args below meth c T' (locs ++ Lc) cells' slots' → T'.heap = h' → Q v h' Lc → Goes p.tables e below P (T'.setTop (mkF m pc' L (v.toList ++ rest)))) : Goes p.tables e below P (T.setTop (mkF m pc L S)) := by
  subst hp hc' hs' hst has
  obtain ⟨_, _, ⟨T1, L1, k1, n1⟩, -, X1, ⟨Lc, hQ, l1, y1, z1⟩, st⟩ := Jvm.RoadKit.callSN X hx hown (Cond.methodLinkNest_wide hZ w1) (mvT hZ w2) (mvT hZ hwi) (mvT hZ hwc) hy (backOf (W := W) hM hZ hwc hwi hf hlo) (g := mkF m pc L (argsL.reverse ++ rest)) rfl hsize (argsL := argsL) (rest := rest) (lenOf hpd hlen) rfl (by rw [← hW]; show 2 * 0 + _ ≤ _; omega) hd (fun _ _ => ⟨rfl, eT, hc, hs⟩)
  dsimp only [Pt.U, Pt.locs, Pt.cells, Pt.slots] at X1 l1 y1 z1 st hQ
  subst l1 y1 z1
  exact (kk _ _ _ _ X1 rfl hQ).to st
theorem o_special (X : Stand p l e R s m args below meth c T locs cells slots) (hx : p.tables.exec = Jvm.exec) (hZ : Z.Warmed39 s.vm) {own : String} {index : Nat} {y : MethodName} {bytes : ByteArray} {maxL : Nat} {ret : Option FieldType} (hr : ret = none) (hy1 : y.name = "<init>") (hown : s.vm.findClass own = some m.cls) (w1 : (Cond.methodLink own index y).before a0 Z = true) (w2 : (Cond.instanceMethod y).before a0 Z = true) (hy : y.cls ≠ "java/lang/invoke/MethodHandle" ∧ y.cls ≠ "java/lang/invoke/VarHandle") {a : Addr} {rm : Room} {as' : Array Value} {Q : Option Value → Heap → List Loc → Prop} (hM : Met l Z y bytes maxL ret rm [] as' h Q) (hwc : (Cond.code y bytes maxL ret).before a0 Z = true) (hwi : (Cond.initialized y.cls).before a0 Z = true) (eT : T.heap = h) (hsize : L.size = c.maxLocals) {argsL rest : List Value} {W : Nat} {ps : List FieldType} {rr : Option FieldType} (hpd : parseMethodDescriptor y.desc = some ⟨ps, rr⟩) (hlen : argsL.length = ps.length) (hst : S = argsL.reverse ++ .ref a :: rest) (has : as' = (.ref a :: argsL).toArray) (hW : (rest.map fun v => v.category).sum = W) (hd : decode c.code pc = .ok (.invokespecial index, 3)) (hf : rm.frames + 1 ≤ R.frames) (hlo : W + (maxL + 11) + rm.locals ≤ R.locals) (hc : cells + rm.cells ≤ R.cells) (hs : slots + rm.slots ≤ R.slots) (hc' : cells + rm.cells = cells') (hs' : slots + rm.slots = slots') (hp : pc + 3 = pc')
    (kk : ∀ v T' h' Lc, Stand p l e R s m args below meth c T' (locs ++ Lc) cells' slots' → T'.heap = h' → Q v h' Lc → Goes p.tables e below P (T'.setTop (mkF m pc' L (v.toList ++ rest)))) : Goes p.tables e below P (T.setTop (mkF m pc L S)) := by
  subst hp hc' hs' hst has hr
  obtain ⟨_, _, ⟨T1, L1, k1, n1⟩, -, X1, ⟨Lc, hQ, l1, y1, z1⟩, st⟩ := X.specialBack hx hy1 hown (mvT hZ w1) (mvT hZ w2) (mvT hZ hwc) hy (backOf (W := W) hM hZ hwc hwi hf hlo) (g := mkF m pc L (argsL.reverse ++ .ref a :: rest)) rfl hsize (Steps.refl _) (a := a) (argsL := argsL) (rest := rest) (lenOf hpd hlen) rfl (by rw [← hW]; show 2 * 0 + _ ≤ _; omega) hd (fun _ _ => ⟨rfl, eT, hc, hs⟩)
  dsimp only [Pt.U, Pt.locs, Pt.cells, Pt.slots] at X1 l1 y1 z1 st hQ
  subst l1 y1 z1
  exact (kk _ _ _ _ X1 rfl hQ).to st
theorem o_virtual (X : Stand p l e R s m args below meth c T locs cells slots) (hx : p.tables.exec = Jvm.exec) (hZ : Z.Warmed39 s.vm) {own C : String} {index : Nat} {y z : MethodName} {bytes : ByteArray} {maxL : Nat} {ret : Option FieldType} (hown : s.vm.findClass own = some m.cls) (w1 : (Cond.methodLink own index y).before a0 Z = true) (w2 : (Cond.declares y).before a0 Z = true) (hnf : NotFace s y) (w3 : (Cond.selects C y z).before a0 Z = true) (w4 : (Cond.instanceMethod z).before a0 Z = true) (hy : y.cls ≠ "java/lang/invoke/MethodHandle" ∧ y.cls ≠ "java/lang/invoke/VarHandle") {a : Addr} (E : Exa Z h a C) {rm : Room} {as' : Array Value} {Q : Option Value → Heap → List Loc → Prop} (hM : Met l Z z bytes maxL ret rm [] as' h Q) (hwc : (Cond.code z bytes maxL ret).before a0 Z = true) (hwi : (Cond.initialized z.cls).before a0 Z = true) (eT : T.heap = h) (hsize : L.size = c.maxLocals) {argsL rest : List Value} {W : Nat} {ps : List FieldType} {rr : Option FieldType} (hpd : parseMethodDescriptor y.desc = some ⟨ps, rr⟩) (hlen : argsL.length = ps.length) (hst : S = argsL.reverse ++ .ref a :: rest) (has : as' = (.ref a :: argsL).toArray) (hW : (rest.map fun v => v.category).sum = W) (hd : decode c.code pc = .ok (.invokevirtual index, 3)) (hf : rm.frames + 1 ≤ R.frames) (hlo : W + (maxL + 11) + rm.locals ≤ R.locals) (hc : cells + rm.cells ≤ R.cells) (hs : slots + rm.slots ≤ R.slots) (hc' : cells + rm.cells = cells') (hs' : slots + rm.slots = slots') (hp : pc + 3 = pc')
    (kk : ∀ v T' h' Lc, Stand p l e R s m args below meth c T' (locs ++ Lc) cells' slots' → T'.heap = h' → Q v h' Lc → Goes p.tables e below P (T'.setTop (mkF m pc' L (v.toList ++ rest)))) : Goes p.tables e below P (T.setTop (mkF m pc L S)) := by
  subst hp hc' hs' hst has
  obtain ⟨cq, kq, qa, qb, qc⟩ := isOf (T := T) hZ eT E
  obtain ⟨_, _, ⟨T1, L1, k1, n1⟩, -, X1, ⟨Lc, hQ, l1, y1, z1⟩, st⟩ := X.virtualBack hx hown (mvT hZ w1) (mvT hZ w2) hnf (mvT hZ w3) (mvT hZ w4) hy (backOf (W := W) hM hZ hwc hwi hf hlo) qa qc (g := mkF m pc L (argsL.reverse ++ .ref a :: rest)) rfl hsize (Steps.refl _) (argsL := argsL) (rest := rest) (lenOf hpd hlen) rfl (by rw [← hW]; show 2 * 0 + _ ≤ _; omega) hd (fun _ _ => ⟨rfl, eT, hc, hs⟩)
  dsimp only [Pt.U, Pt.locs, Pt.cells, Pt.slots] at X1 l1 y1 z1 st hQ
  subst l1 y1 z1
  exact (kk _ _ _ _ X1 rfl hQ).to st
theorem o_iface (X : Stand p l e R s m args below meth c T locs cells slots) (hx : p.tables.exec = Jvm.exec) (hZ : Z.Warmed39 s.vm) {own C : String} {index count : Nat} {xi y : MethodName} {bytes : ByteArray} {maxL : Nat} {ret : Option FieldType} (hown : s.vm.findClass own = some m.cls) (w1 : (Cond.methodLink own index xi).before a0 Z = true) (w2 : (Cond.declares xi).before a0 Z = true) (w3 : (Cond.interfaceMethod xi.cls xi.cls xi.name xi.desc).before args s = true) (w4 : (Cond.selects C xi y).before a0 Z = true) (w5 : (Cond.instanceMethod y).before a0 Z = true) (w6 : (Cond.publicMethod y).before a0 Z = true) (w7 : (Cond.unhidden C xi.name xi.desc).before a0 Z = true) (w8 : (Cond.castable C xi.cls).before a0 Z = true) (hy : xi.cls ≠ "java/lang/invoke/MethodHandle" ∧ xi.cls ≠ "java/lang/invoke/VarHandle") {a : Addr} (E : Exa Z h a C) {rm : Room} {as' : Array Value} {Q : Option Value → Heap → List Loc → Prop} (hM : Met l Z y bytes maxL ret rm [] as' h Q) (hwc : (Cond.code y bytes maxL ret).before a0 Z = true) (hwi : (Cond.initialized y.cls).before a0 Z = true) (eT : T.heap = h) (hsize : L.size = c.maxLocals) {argsL rest : List Value} {W : Nat} {ps : List FieldType} {rr : Option FieldType} (hpd : parseMethodDescriptor xi.desc = some ⟨ps, rr⟩) (hlen : argsL.length = ps.length) (hst : S = argsL.reverse ++ .ref a :: rest) (has : as' = (.ref a :: argsL).toArray) (hW : (rest.map fun v => v.category).sum = W) (hd : decode c.code pc = .ok (.invokeinterface index count, 5)) (hf : rm.frames + 1 ≤ R.frames) (hlo : W + (maxL + 11) + rm.locals ≤ R.locals) (hc : cells + rm.cells ≤ R.cells) (hs : slots + rm.slots ≤ R.slots) (hc' : cells + rm.cells = cells') (hs' : slots + rm.slots = slots') (hp : pc + 5 = pc')
    (kk : ∀ v T' h' Lc, Stand p l e R s m args below meth c T' (locs ++ Lc) cells' slots' → T'.heap = h' → Q v h' Lc → Goes p.tables e below P (T'.setTop (mkF m pc' L (v.toList ++ rest)))) : Goes p.tables e below P (T.setTop (mkF m pc L S)) := by
  subst hp hc' hs' hst has
  obtain ⟨cq, kq, qa, qb, qc⟩ := isOf (T := T) hZ eT E
  obtain ⟨_, _, ⟨T1, L1, k1, n1⟩, -, X1, ⟨Lc, hQ, l1, y1, z1⟩, st⟩ := X.interfaceBack hx hown (mvT hZ w1) (mvT hZ w2) w3 (mvT hZ w4) (mvT hZ w5) (mvT hZ w6) (mvT hZ w7) (mvT hZ w8) hy (backOf (W := W) hM hZ hwc hwi hf hlo) qa qb qc (g := mkF m pc L (argsL.reverse ++ .ref a :: rest)) rfl hsize (Steps.refl _) (argsL := argsL) (rest := rest) (lenOf hpd hlen) rfl (by rw [← hW]; show 2 * 0 + _ ≤ _; omega) hd (fun _ _ => ⟨rfl, eT, hc, hs⟩)
  dsimp only [Pt.U, Pt.locs, Pt.cells, Pt.slots] at X1 l1 y1 z1 st hQ
  subst l1 y1 z1
  exact (kk _ _ _ _ X1 rfl hQ).to st
theorem o_virtualUp (X : Stand p l e R s m args below meth c T locs cells slots) (hx : p.tables.exec = Jvm.exec) (hZ : Z.Warmed39 s.vm) {own C owner : String} {index : Nat} {x y : MethodName} {bytes : ByteArray} {maxL : Nat} {ret : Option FieldType} (hown : s.vm.findClass own = some m.cls) (w1 : (Cond.methodLink own index x).before a0 Z = true) (w2 : (Cond.sameMethod x.cls owner x.name x.desc).before a0 Z = true) (w2' : (Cond.declares ⟨owner, x.name, x.desc⟩).before a0 Z = true) (w3 : (Cond.selects C x y).before a0 Z = true) (w4 : (Cond.instanceMethod y).before a0 Z = true) (hy : owner ≠ "java/lang/invoke/MethodHandle" ∧ owner ≠ "java/lang/invoke/VarHandle") {a : Addr} (E : Exa Z h a C) {rm : Room} {as' : Array Value} {Q : Option Value → Heap → List Loc → Prop} (hM : Met l Z y bytes maxL ret rm [] as' h Q) (hwc : (Cond.code y bytes maxL ret).before a0 Z = true) (hwi : (Cond.initialized y.cls).before a0 Z = true) (eT : T.heap = h) (hsize : L.size = c.maxLocals) {argsL rest : List Value} {W : Nat} {ps : List FieldType} {rr : Option FieldType} (hpd : parseMethodDescriptor x.desc = some ⟨ps, rr⟩) (hlen : argsL.length = ps.length) (hst : S = argsL.reverse ++ .ref a :: rest) (has : as' = (.ref a :: argsL).toArray) (hW : (rest.map fun v => v.category).sum = W) (hd : decode c.code pc = .ok (.invokevirtual index, 3)) (hf : rm.frames + 1 ≤ R.frames) (hlo : W + (maxL + 11) + rm.locals ≤ R.locals) (hc : cells + rm.cells ≤ R.cells) (hs : slots + rm.slots ≤ R.slots) (hc' : cells + rm.cells = cells') (hs' : slots + rm.slots = slots') (hp : pc + 3 = pc')
    (kk : ∀ v T' h' Lc, Stand p l e R s m args below meth c T' (locs ++ Lc) cells' slots' → T'.heap = h' → Q v h' Lc → Goes p.tables e below P (T'.setTop (mkF m pc' L (v.toList ++ rest)))) : Goes p.tables e below P (T.setTop (mkF m pc L S)) := by
  subst hp hc' hs' hst has
  obtain ⟨cq, kq, qa, qb, qc⟩ := isOf (T := T) hZ eT E
  obtain ⟨_, _, ⟨T1, L1, k1, n1⟩, -, X1, ⟨Lc, hQ, l1, y1, z1⟩, st⟩ := X.virtualBackUp hx hown (mvT hZ w1) (mvT hZ w2) (mvT hZ w2') hy (mvT hZ w3) (mvT hZ w4) (backOf (W := W) hM hZ hwc hwi hf hlo) qa qc (g := mkF m pc L (argsL.reverse ++ .ref a :: rest)) rfl hsize (Steps.refl _) (argsL := argsL) (rest := rest) (lenOf hpd hlen) rfl (by rw [← hW]; show 2 * 0 + _ ≤ _; omega) hd (fun _ _ => ⟨rfl, eT, hc, hs⟩)
  dsimp only [Pt.U, Pt.locs, Pt.cells, Pt.slots] at X1 l1 y1 z1 st hQ
  subst l1 y1 z1
  exact (kk _ _ _ _ X1 rfl hQ).to st
theorem o_alen (X : Stand p l e R s m args below meth c T locs cells slots) (hx : p.tables.exec = Jvm.exec) (hZ : Z.Warmed39 s.vm) (eT : T.heap = h) {a : Addr} {kc : ClassId} {ty : FieldType} {z : Int32} {vs : List Value} {dv : Value} (A : Arv Z h a kc ty z vs dv) (hd : decode c.code pc = .ok (.arraylength, 1)) (hp : pc + 1 = pc') (kk : Goes p.tables e below P (T.setTop (mkF m pc' L (.int z :: S)))) : Goes p.tables e below P (T.setTop (mkF m pc L (.ref a :: S))) := by
  subst hp
  obtain ⟨cl, A1, q1, S1, N1, H1, G1⟩ := A
  rw [← len_of S1 N1] at kk
  exact kk.on fun _ k => X.arraylength hx (by rw [eT]; exact A1.1) (State.isArrayOf_alike hZ.alike A1.2.1) (g := mkF m pc L (.ref a :: S)) rfl rfl hd _ k
theorem o_iaload (X : Stand p l e R s m args below meth c T locs cells slots) (hx : p.tables.exec = Jvm.exec) (hZ : Z.Warmed39 s.vm) (eT : T.heap = h) {a : Addr} {kc : ClassId} {z : Int32} {vs : List Value} {dv v : Value} (A : Arv Z h a kc .int z vs dv) {j : Int32} (hj : ¬ j < 0 ∧ j < z) (hv : vs.getD j.toNatClampNeg dv = v) (hd : decode c.code pc = .ok (.iaload, 1)) (hp : pc + 1 = pc') (kk : Goes p.tables e below P (T.setTop (mkF m pc' L (v :: S)))) : Goes p.tables e below P (T.setTop (mkF m pc L (.int j :: .ref a :: S))) := by
  subst hp
  obtain ⟨cl, A1, q1, S1, N1, H1, G1⟩ := A
  have hin := inb_of S1 hj
  exact kk.on fun _ k => X.iaload hx (j := j) (v := v) (by rw [eT]; exact A1.1) (State.isArrayOf_alike hZ.alike A1.2.1) A1.2.2 hin (H1.at hin hv) (g := mkF m pc L (.int j :: .ref a :: S)) rfl rfl hd _ k
theorem o_laload (X : Stand p l e R s m args below meth c T locs cells slots) (hx : p.tables.exec = Jvm.exec) (hZ : Z.Warmed39 s.vm) (eT : T.heap = h) {a : Addr} {kc : ClassId} {z : Int32} {vs : List Value} {dv v : Value} (A : Arv Z h a kc .long z vs dv) {j : Int32} (hj : ¬ j < 0 ∧ j < z) (hv : vs.getD j.toNatClampNeg dv = v) (hd : decode c.code pc = .ok (.laload, 1)) (hp : pc + 1 = pc') (kk : Goes p.tables e below P (T.setTop (mkF m pc' L (v :: S)))) : Goes p.tables e below P (T.setTop (mkF m pc L (.int j :: .ref a :: S))) := by
  subst hp
  obtain ⟨cl, A1, q1, S1, N1, H1, G1⟩ := A
  have hin := inb_of S1 hj
  exact kk.on fun _ k => X.laload hx (j := j) (v := v) (by rw [eT]; exact A1.1) (State.isArrayOf_alike hZ.alike A1.2.1) A1.2.2 hin (H1.at hin hv) (g := mkF m pc L (.int j :: .ref a :: S)) rfl rfl hd _ k
theorem o_caload (X : Stand p l e R s m args below meth c T locs cells slots) (hx : p.tables.exec = Jvm.exec) (hZ : Z.Warmed39 s.vm) (eT : T.heap = h) {a : Addr} {kc : ClassId} {z : Int32} {vs : List Value} {dv v : Value} (A : Arv Z h a kc .char z vs dv) {j : Int32} (hj : ¬ j < 0 ∧ j < z) (hv : vs.getD j.toNatClampNeg dv = v) (hd : decode c.code pc = .ok (.caload, 1)) (hp : pc + 1 = pc') (kk : Goes p.tables e below P (T.setTop (mkF m pc' L (v :: S)))) : Goes p.tables e below P (T.setTop (mkF m pc L (.int j :: .ref a :: S))) := by
  subst hp
  obtain ⟨cl, A1, q1, S1, N1, H1, G1⟩ := A
  have hin := inb_of S1 hj
  exact kk.on fun _ k => X.caload hx (j := j) (v := v) (by rw [eT]; exact A1.1) (State.isArrayOf_alike hZ.alike A1.2.1) A1.2.2 hin (H1.at hin hv) (g := mkF m pc L (.int j :: .ref a :: S)) rfl rfl hd _ k
theorem o_baloadBytes (X : Stand p l e R s m args below meth c T locs cells slots) (hx : p.tables.exec = Jvm.exec) (hZ : Z.Warmed39 s.vm) (eT : T.heap = h) {a : Addr} {kc : ClassId} {z : Int32} {vs : List Value} {dv v : Value} (A : Arv Z h a kc .byte z vs dv) {j : Int32} (hj : ¬ j < 0 ∧ j < z) (hv : vs.getD j.toNatClampNeg dv = v) (hd : decode c.code pc = .ok (.baload, 1)) (hp : pc + 1 = pc') (kk : Goes p.tables e below P (T.setTop (mkF m pc' L (v :: S)))) : Goes p.tables e below P (T.setTop (mkF m pc L (.int j :: .ref a :: S))) := by
  subst hp
  obtain ⟨cl, A1, q1, S1, N1, H1, G1⟩ := A
  have hin := inb_of S1 hj
  exact kk.on fun _ k => X.baloadBytes hx (j := j) (v := v) (by rw [eT]; exact A1.1) (State.isArrayOf_alike hZ.alike A1.2.1) A1.2.2 hin (H1.at hin hv) (g := mkF m pc L (.int j :: .ref a :: S)) rfl rfl hd _ k
theorem o_daload (X : Stand p l e R s m args below meth c T locs cells slots) (hx : p.tables.exec = Jvm.exec) (hZ : Z.Warmed39 s.vm) (eT : T.heap = h) {a : Addr} {kc : ClassId} {z : Int32} {vs : List Value} {dv v : Value} (A : Arv Z h a kc .double z vs dv) {j : Int32} (hj : ¬ j < 0 ∧ j < z) (hv : vs.getD j.toNatClampNeg dv = v) (hd : decode c.code pc = .ok (.daload, 1)) (hp : pc + 1 = pc') (kk : Goes p.tables e below P (T.setTop (mkF m pc' L (v :: S)))) : Goes p.tables e below P (T.setTop (mkF m pc L (.int j :: .ref a :: S))) := by
  subst hp
  obtain ⟨cl, A1, q1, S1, N1, H1, G1⟩ := A
  have hin := inb_of S1 hj
  exact kk.on fun _ k => X.daload hx (j := j) (v := v) (by rw [eT]; exact A1.1) (State.isArrayOf_alike hZ.alike A1.2.1) A1.2.2 hin (H1.at hin hv) (g := mkF m pc L (.int j :: .ref a :: S)) rfl rfl hd _ k
end Own
section Refs
variable {p : Program} {l : Launch} {e : Env} {R : Room} {s : State} {m : MethodId} {args : Array Value} {below : List Frame} {meth : Method} {c : Code} {T : State} {locs : List Loc} {cells slots cells' slots' : Nat} {Z : State} {a0 : Array Value} {h : Heap} {P : Outcome → State → Prop} {pc pc' : Nat} {L L' : Array Slot} {S : List Value}
theorem o_locs (hL : L = L') (kk : Goes p.tables e below P (T.setTop (mkF m pc L' S))) : Goes p.tables e below P (T.setTop (mkF m pc L S)) := by subst hL; exact kk
theorem o_newPE (X : Stand p l e R s m args below meth c T locs cells slots) (hx : p.tables.exec = Jvm.exec) (hZ : Z.Warmed39 s.vm) {aty : ArrayType} {ad : String} (w : (Cond.arrayClass (newarray.typeOf aty)).before a0 Z = true) (eT : T.heap = h) (hd : decode c.code pc = .ok (.newarray aty, 2)) {n : Int32} (hn : ¬ n < 0) {cap : Nat} (hcap : n.toNatClampNeg ≤ cap) (hb : cap * 8 ≤ 536870912) (hc : cells + 1 ≤ R.cells) (hl : slots + cap ≤ R.slots) (hc' : cells + 1 = cells') (hs' : slots + cap = slots') (hp : pc + 2 = pc') (had : "[" ++ (newarray.typeOf aty).toString = ad)
    (kk : ∀ T' h' k b, b = h.size → Stand p l e R s m args below meth c T' locs cells' slots' → T'.heap = h' → Ext h h' → Arr Z h' b (newA k (newarray.typeOf aty) n) (newarray.typeOf aty) → Exa Z h' b ad → Goes p.tables e below P (T'.setTop (mkF m pc' L (.ref b :: S)))) : Goes p.tables e below P (T.setTop (mkF m pc L (.int n :: S))) := by
  subst hp hc' hs'
  obtain ⟨T', h', k, X', e', E', A', D', st⟩ := newPE X hx hZ w eT (g := mkF m pc L (.int n :: S)) rfl hd rfl hn hcap hb hc hl had
  exact (kk T' h' k _ rfl X' e' E' A' D').on st
theorem o_newRA (X : Stand p l e R s m args below meth c T locs cells slots) (hx : p.tables.exec = Jvm.exec) (hZ : Z.Warmed39 s.vm) {own C ad : String} {ty : FieldType} {index : Nat} (hown : s.vm.findClass own = some m.cls) (hC : (FieldType.array ty).toString = C) (w1 : (Cond.classLink own index C).before a0 Z = true) (w2 : (Cond.arrayOver (.array ty)).before a0 Z = true) (eT : T.heap = h) (hd : decode c.code pc = .ok (.anewarray index, 3)) {n : Int32} (hn : ¬ n < 0) {cap : Nat} (hcap : n.toNatClampNeg ≤ cap) (hb : cap * 8 ≤ 536870912) (hc : cells + 1 ≤ R.cells) (hl : slots + cap ≤ R.slots) (hc' : cells + 1 = cells') (hs' : slots + cap = slots') (hp : pc + 3 = pc') (had : "[" ++ C = ad)
    (kk : ∀ T' h' k b, b = h.size → Stand p l e R s m args below meth c T' locs cells' slots' → T'.heap = h' → Ext h h' → Arr Z h' b (newA k (.array ty) n) (.array ty) → Exa Z h' b ad → OvrA Z k ty C → Goes p.tables e below P (T'.setTop (mkF m pc' L (.ref b :: S)))) : Goes p.tables e below P (T.setTop (mkF m pc L (.int n :: S))) := by
  subst hp hc' hs'
  obtain ⟨T', h', k, X', e', E', A', D', O', st⟩ := newRA X hx hZ hown hC w1 w2 eT (g := mkF m pc L (.int n :: S)) rfl hd rfl hn hcap hb hc hl had
  exact (kk T' h' k _ rfl X' e' E' A' D' O').on st
theorem o_newRE (X : Stand p l e R s m args below meth c T locs cells slots) (hx : p.tables.exec = Jvm.exec) (hZ : Z.Warmed39 s.vm) {own C ad : String} {index : Nat} (hown : s.vm.findClass own = some m.cls) (w1 : (Cond.classLink own index C).before a0 Z = true) (w2 : (Cond.arrayOver (.object C)).before a0 Z = true) (eT : T.heap = h) (hd : decode c.code pc = .ok (.anewarray index, 3)) {n : Int32} (hn : ¬ n < 0) {cap : Nat} (hcap : n.toNatClampNeg ≤ cap) (hb : cap * 8 ≤ 536870912) (hc : cells + 1 ≤ R.cells) (hl : slots + cap ≤ R.slots) (hc' : cells + 1 = cells') (hs' : slots + cap = slots') (hp : pc + 3 = pc') (had : "[" ++ (FieldType.object C).toString = ad)
    (kk : ∀ T' h' k b, b = h.size → Stand p l e R s m args below meth c T' locs cells' slots' → T'.heap = h' → Ext h h' → Arr Z h' b (newA k (.object C) n) (.object C) → Exa Z h' b ad → Ovr Z k C → Goes p.tables e below P (T'.setTop (mkF m pc' L (.ref b :: S)))) : Goes p.tables e below P (T.setTop (mkF m pc L (.int n :: S))) := by
  subst hp hc' hs'
  obtain ⟨T', h', k, X', e', E', A', D', O', st⟩ := newRE X hx hZ hown w1 w2 eT (g := mkF m pc L (.int n :: S)) rfl hd rfl hn hcap hb hc hl had
  exact (kk T' h' k _ rfl X' e' E' A' D' O').on st
theorem o_stR (X : Stand p l e R s m args below meth c T locs cells slots) (hx : p.tables.exec = Jvm.exec) (hZ : Z.Warmed39 s.vm) (eT : T.heap = h) {a : Addr} {kc : ClassId} {ty : FieldType} {z : Int32} {vs : List Value} {dv : Value} (A : Arv Z h a kc ty z vs dv) {j : Int32} {v : Value} {i : Nat} (hj : ¬ j < 0 ∧ j < z) (hi : j.toNatClampNeg = i) (hv : i < vs.length) (hty : ty.isReference = true) (hf : fits ty v = true) (F : ∀ cl, Arr Z h a cl ty → cl.cls = kc → Sto Z h a v) (hd : decode c.code pc = .ok (.aastore, 1)) (hp : pc + 1 = pc')
    (kk : ∀ T' h', Stand p l e R s m args below meth c T' (locs ++ [⟨a, i⟩]) cells slots → T'.heap = h' → Wr h h' a i v → Arv Z h' a kc ty z (vs.set i v) dv → Goes p.tables e below P (T'.setTop (mkF m pc' L S))) : Goes p.tables e below P (T.setTop (mkF m pc L (v :: .int j :: .ref a :: S))) := by
  subst hp
  obtain ⟨cl, A1, q1, S1, N1, H1, G1⟩ := A
  obtain ⟨T', h', X', e', W', st⟩ := Jvm.RoadKit.stR X hx hZ eT A1 (j := j) (v := v) (inb_of S1 hj) hty (F cl A1 q1) (g := mkF m pc L (v :: .int j :: .ref a :: S)) rfl rfl hd
  have V' := Arv.set A1 q1 S1 N1 H1 G1 hf W' i hi hv
  rw [hi] at X' W'
  exact (kk T' h' X' e' W' V').on st
theorem o_aaload (X : Stand p l e R s m args below meth c T locs cells slots) (hx : p.tables.exec = Jvm.exec) (hZ : Z.Warmed39 s.vm) (eT : T.heap = h) {a : Addr} {kc : ClassId} {ty : FieldType} {z : Int32} {vs : List Value} {dv v : Value} (A : Arv Z h a kc ty z vs dv) (hty : ty.isReference = true) {j : Int32} (hj : ¬ j < 0 ∧ j < z) (hv : vs.getD j.toNatClampNeg dv = v) (hd : decode c.code pc = .ok (.aaload, 1)) (hp : pc + 1 = pc') (kk : Goes p.tables e below P (T.setTop (mkF m pc' L (v :: S)))) : Goes p.tables e below P (T.setTop (mkF m pc L (.int j :: .ref a :: S))) := by
  subst hp
  obtain ⟨cl, A1, q1, S1, N1, H1, G1⟩ := A
  have hin := inb_of S1 hj
  exact kk.on fun _ k => X.aaload hx (j := j) (v := v) (by rw [eT]; exact A1.1) (State.isArrayOf_alike hZ.alike A1.2.1) hty A1.2.2 hin (H1.at hin hv) (g := mkF m pc L (.int j :: .ref a :: S)) rfl rfl hd _ k
theorem o_private (X : Stand p l e R s m args below meth c T locs cells slots) (hx : p.tables.exec = Jvm.exec) (hZ : Z.Warmed39 s.vm) {own C : String} {index : Nat} {y : MethodName} {bytes : ByteArray} {maxL : Nat} {ret : Option FieldType} (hown : s.vm.findClass own = some m.cls) (w1 : (Cond.methodLink own index y).before a0 Z = true) (w2 : (Cond.instanceMethod y).before a0 Z = true) (w3 : (Cond.privateMethod y).before a0 Z = true) {kI : Nat} (w4 : (Cond.instantiable y.cls kI).before a0 Z = true) (hy : y.cls ≠ "java/lang/invoke/MethodHandle" ∧ y.cls ≠ "java/lang/invoke/VarHandle") {a : Addr} (E : Exa Z h a C) {rm : Room} {as' : Array Value} {Q : Option Value → Heap → List Loc → Prop} (hM : Met l Z y bytes maxL ret rm [] as' h Q) (hwc : (Cond.code y bytes maxL ret).before a0 Z = true) (hwi : (Cond.initialized y.cls).before a0 Z = true) (eT : T.heap = h) (hsize : L.size = c.maxLocals) {argsL rest : List Value} {W : Nat} {ps : List FieldType} {rr : Option FieldType} (hpd : parseMethodDescriptor y.desc = some ⟨ps, rr⟩) (hlen : argsL.length = ps.length) (hst : S = argsL.reverse ++ .ref a :: rest) (has : as' = (.ref a :: argsL).toArray) (hW : (rest.map fun v => v.category).sum = W) (hd : decode c.code pc = .ok (.invokevirtual index, 3)) (hf : rm.frames + 1 ≤ R.frames) (hlo : W + (maxL + 11) + rm.locals ≤ R.locals) (hc : cells + rm.cells ≤ R.cells) (hs : slots + rm.slots ≤ R.slots) (hc' : cells + rm.cells = cells') (hs' : slots + rm.slots = slots') (hp : pc + 3 = pc')
    (kk : ∀ v T' h' Lc, Stand p l e R s m args below meth c T' (locs ++ Lc) cells' slots' → T'.heap = h' → Q v h' Lc → Goes p.tables e below P (T'.setTop (mkF m pc' L (v.toList ++ rest)))) : Goes p.tables e below P (T.setTop (mkF m pc L S)) := by
  subst hp hc' hs' hst has
  obtain ⟨cB, kq, qa, qb, cq, q1, q2, q3⟩ := isOf (T := T) hZ eT E
  have hK := backOf (R := R) (p := p) (e := e) (below := below) (s := s) (args := args) (len := 3) (W := W) hM hZ hwc hwi hf hlo
  obtain ⟨mk, methM, hnamed, hmethM, hstM, habM⟩ := Cond.instanceMethod_spec (mvT (args := args) hZ w2)
  obtain ⟨methM', cM, hmethM', -, -, -, -, -, -, hsigM⟩ := Cond.code_spec hnamed (mvT (args := args) hZ hwc)
  cases hmethM.symm.trans hmethM'
  obtain ⟨kP, hkP, -⟩ := className_of_methodNamed hnamed
  have hkPi : kP.isInterface = false := by
    obtain ⟨c9, k9, g1, g2, g3⟩ := Cond.instantiable_spec (show (Cond.instantiable y.cls kI).holds args s none s [] = true from mvT (args := args) (s := s) hZ w4)
    cases (findClass_of_methodNamed hnamed).symm.trans g1
    cases hkP.symm.trans g2
    exact (Bool.or_eq_false_iff.mp g3.2.1).1
  have hselP : selectMethod e.platform s.vm cq.cls mk = .method mk := selectMethod_private hmethM (Cond.privateMethod_at (mvT (args := args) hZ w3) mk methM hnamed hmethM)
  obtain ⟨vm₁, X₁, hstep₁⟩ := X.invokevirtual hx hown (mvT hZ w1) hnamed hmethM hstM hkP hkPi hy (a := a) (cell := cq) q1 (fun q z => by rw [z] at q3; cases q3) hselP hmethM habM hkP hkPi (g := mkF m pc L (argsL.reverse ++ .ref a :: rest)) rfl (argsL := argsL) (rest := rest) (lenOf hpd hlen _ hsigM) rfl hd
  obtain ⟨_, ⟨T1, L1, k1, n1⟩, X1, ⟨Lc, hQ, l1, y1, z1⟩, st⟩ := hK m meth c ⟨T.setVm vm₁, locs, cells, slots⟩ (mkF m pc L rest) (.invokevirtual index) mk (.ref a :: argsL).toArray X₁ rfl hsize hd (by show 2 * 0 + (rest.map fun v => v.category).sum ≤ W; omega) (X₁.named hnamed) ⟨rfl, eT, hc, hs⟩
  dsimp only [Pt.U, Pt.locs, Pt.cells, Pt.slots] at X1 l1 y1 z1 st hQ
  subst l1 y1 z1
  exact (kk _ _ _ _ X1 rfl hQ).to ((hstep₁ _ fun acts => by rw [doInvoke_state]; exact Steps.refl _).trans st)
end Refs
def EndsW (s : State) (Q : Option Value → Heap → List Loc → Prop) (C S : Nat) (o : Outcome) (U : State) : Prop := ∃ v L, o = .returned v ∧ Q v U.heap L ∧ ReturnedEndW s o U L C S
def MetW (l : Launch) (Z : State) (y : MethodName) (bytes : ByteArray) (maxL : Nat) (ret : Option FieldType) (rm : Room) (ws : List Jvm.Cond) (as' : Array Value) (h0 : Heap) (Q : Option Value → Heap → List Loc → Prop) : Prop :=
  MetFree l y (head1 (Jvm.Cond.code y bytes maxL ret :: ws) rm) (fun a U => a = as' ∧ Z.Warmed39 U.vm ∧ U.heap = h0) (fun _ _ _ _ _ => True) (fun _ U o U' => ∃ v L, o = .returned v ∧ Q v U'.heap L ∧ ReturnedEndW U o U' L rm.cells rm.slots)
/-- the walk's base: the start, its tables warmer -/
def Base (s s' : State) (h : Heap) : Prop := ∃ vm k, s' = s.setVm vm ∧ s.Since vm k ∧ k ≤ h.size
theorem Base.start (s : State) (h : Heap) : Base s s h := ⟨s.vm, 0, (State.setVm_self s).symm, (State.WarmedH.refl s).since 0, Nat.zero_le _⟩
theorem Base.up {s s' : State} {h h' : Heap} (B : Base s s' h) (q : h.size ≤ h'.size) : Base s s' h' := by
  obtain ⟨vm, k, a, b, c⟩ := B
  exact ⟨vm, k, a, b, Nat.le_trans c q⟩
section Wide
variable {p : Program} {l : Launch} {e : Env} {R : Room} {s s' : State} {m : MethodId} {args : Array Value} {below : List Frame} {meth : Method} {c : Code} {T : State} {locs : List Loc} {cells slots cells' slots' : Nat} {Z : State} {a0 : Array Value} {h : Heap} {P : Outcome → State → Prop} {pc pc' : Nat} {L L' : Array Slot} {S : List Value}
theorem metW_of {y : MethodName} {bytes : ByteArray} {maxL : Nat} {ret : Option FieldType} {rm : Room} {ws : List Jvm.Cond} {as' : Array Value} {h0 : Heap} {Q : Option Value → Heap → List Loc → Prop} {L0 : Array Slot}
    (hpn : plainFor y = true) (hef : ∀ m, entryFrame m as' maxL = mkF m 0 L0 [])
    (body : ∀ (p : Program) (e : Env) (s : State) (m : MethodId) (below : List Frame) (meth : Method) (c : Code) (T : State), p.tables.exec = Jvm.exec → c.code = bytes → c.maxLocals = maxL → s.vm.findClass y.cls = some m.cls → meth.name = y.name → meth.sig.returnType = ret → meth.locks = false → Z.Warmed39 s.vm → Stand p l e rm s m as' below meth c T [] 0 0 → T.heap = h0 → Goes p.tables e below (EndsW s Q rm.cells rm.slots) (T.setTop (mkF m 0 L0 []))) :
    MetW l Z y bytes maxL ret rm ws as' h0 Q := by
  refine MetFree.of_bodySF hpn hisR ?_
  intro p e s m args below meth c s₁ Bd hml0 hP hK
  obtain ⟨rfl, hZ, hh⟩ := hP
  have e0 : s₁.heap = h0 := by rw [← hh, Bd.state]; rfl
  obtain ⟨s₂, o, h1, h2, h3, h4⟩ := body p e s m below meth c s₁ Bd.exec Bd.bytes hml0 (findClass_of_methodNamed Bd.named) (name_of_methodNamed Bd.named Bd.method).1 Bd.returns (BodyLoose.notSynchronized Bd) hZ (Stand.of_body Bd) e0
  exact ⟨s₂, o, castTop (hef m) h1, h2, h3, h4⟩
theorem o_retW (X : Stand p l e R s' m args below meth c T locs cells slots) (hx : p.tables.exec = Jvm.exec) (hlk : meth.locks = false) {w : Value} {t : FieldType} {i : Instr} {Q : Option Value → Heap → List Loc → Prop} {C Sl : Nat} (hret : meth.sig.returnType = some t) (hn : narrow t w = w)
    (hi : (i = .ireturn ∧ (t = .int ∨ t = .boolean ∨ t = .byte ∨ t = .char ∨ t = .short) ∧ ∃ z, w = .int z) ∨ (i = .lreturn ∧ t = .long ∧ ∃ z, w = .long z) ∨ (i = .dreturn ∧ t = .double ∧ ∃ z, w = .double z) ∨ (i = .freturn ∧ t = .float ∧ ∃ z, w = .float z) ∨ (i = .areturn ∧ t.isReference = true ∧ w.isRef = true))
    (hd : decode c.code pc = .ok (i, 1)) (hC : cells ≤ C) (hS : slots ≤ Sl) (eT : T.heap = h) (B : Base s s' h) (hq : Q (some w) h locs) : Goes p.tables e below (EndsW s Q C Sl) (T.setTop (mkF m pc L (w :: S))) := by
  subst eT
  obtain ⟨vm, k, rfl, hSi, hk⟩ := B
  obtain ⟨fs, hr, hrun, hended, hE⟩ := X.leaveW hSi hk (v := some w) (fun h => by rw [hret] at h; cases h) hlk
  exact ⟨_, _, retOut X hx hret hn hi hd hr, hrun, hended, _, _, rfl, hq, hE.1, hE.2.1, hE.2.2.1, hE.2.2.2.mono hC hS⟩
theorem o_retVW (X : Stand p l e R s' m args below meth c T locs cells slots) (hx : p.tables.exec = Jvm.exec) (hlk : meth.locks = false) {Q : Option Value → Heap → List Loc → Prop} {C Sl : Nat} (hret : meth.sig.returnType = none) (hd : decode c.code pc = .ok (.return_, 1)) (hC : cells ≤ C) (hS : slots ≤ Sl) (eT : T.heap = h) (B : Base s s' h) (hq : Q none h locs) :
    Goes p.tables e below (EndsW s Q C Sl) (T.setTop (mkF m pc L [])) := by
  subst eT
  obtain ⟨vm, k, rfl, hSi, hk⟩ := B
  obtain ⟨fs, hr, hrun, hended, hE⟩ := X.leaveW hSi hk (v := none) (fun _ => rfl) hlk
  exact ⟨_, _, X.returnOut hx hret hd hr, hrun, hended, _, _, rfl, hq, hE.1, hE.2.1, hE.2.2.1, hE.2.2.2.mono hC hS⟩
theorem o_ldcS (X : Stand p l e R s' m args below meth c T locs cells slots) (hx : p.tables.exec = Jvm.exec) (hZ : Z.Warmed39 s'.vm) {own text : String} {index : Nat} (hown : s'.vm.findClass own = some m.cls) (w : (Cond.stringLink own index text).before a0 Z = true) (wS : ∀ a ∈ Bundle.stringAtoms, a.before a0 Z = true) (eT : T.heap = h) (B : Base s s' h) (hd : decode c.code pc = .ok (.ldc index, 2)) {n : Nat} (hn : 4 * text.toList.length ≤ n) (hbig : n ≤ 536870912) (hc : cells + 2 ≤ R.cells) (hl : slots + (n + 4) ≤ R.slots) (hc' : cells + 2 = cells') (hs' : slots + (n + 4) = slots') (hp : pc + 2 = pc')
    (kk : ∀ s2 T' h' a, Stand p l e R s2 m args below meth c T' locs cells' slots' → T'.heap = h' → Ext h h' → Base s s2 h' → Z.Warmed39 s2.vm → s2.vm.findClass own = some m.cls → Goes p.tables e below P (T'.setTop (mkF m pc' L (.ref a :: S)))) : Goes p.tables e below P (T.setTop (mkF m pc L S)) := by
  subst hp hc' hs'
  obtain ⟨vm, k, rfl, hSi, hk⟩ := B
  obtain ⟨a, T', h', k1, X', e', E', hS', hk', hZ', ho', st⟩ := ldcS X hx hZ hown w wS eT hSi hk (g := mkF m pc L S) rfl hd hn hbig hc hl
  exact (kk _ T' h' a X' e' E' ⟨_, _, rfl, hS', hk'⟩ hZ' ho').on st
theorem o_staticW (X : Stand p l e R s' m args below meth c T locs cells slots) (hx : p.tables.exec = Jvm.exec) (hZ : Z.Warmed39 s'.vm) {own : String} {index : Nat} {y : MethodName} {bytes : ByteArray} {maxL : Nat} {ret : Option FieldType} (hown : s'.vm.findClass own = some m.cls) (w1 : (Cond.methodLink own index y).before a0 Z = true) (w2 : (Cond.static y).before a0 Z = true) (hy : y.cls ≠ "java/lang/invoke/MethodHandle" ∧ y.cls ≠ "java/lang/invoke/VarHandle") {rm : Room} {as' : Array Value} {Q : Option Value → Heap → List Loc → Prop} (hM : MetW l Z y bytes maxL ret rm [] as' h Q) (hwc : (Cond.code y bytes maxL ret).before a0 Z = true) (hwi : (Cond.initialized y.cls).before a0 Z = true) (eT : T.heap = h) (B : Base s s' h) (hsize : L.size = c.maxLocals) {argsL rest : List Value} {W : Nat} {ps : List FieldType} {rr : Option FieldType} (hpd : parseMethodDescriptor y.desc = some ⟨ps, rr⟩) (hlen : argsL.length = ps.length) (hst : S = argsL.reverse ++ rest) (has : as' = (argsL).toArray) (hW : (rest.map fun v => v.category).sum = W) (hd : decode c.code pc = .ok (.invokestatic index, 3)) (hf : rm.frames + 1 ≤ R.frames) (hlo : W + (maxL + 11) + rm.locals ≤ R.locals) (hc : cells + rm.cells ≤ R.cells) (hs : slots + rm.slots ≤ R.slots) (hc' : cells + rm.cells = cells') (hs' : slots + rm.slots = slots') (hp : pc + 3 = pc')
    (kk : ∀ v s2 T' h' Lc, Stand p l e R s2 m args below meth c T' (locs ++ Lc) cells' slots' → T'.heap = h' → h.size ≤ h'.size → Base s s2 h' → Z.Warmed39 s2.vm → s2.vm.findClass own = some m.cls → Q v h' Lc → Goes p.tables e below P (T'.setTop (mkF m pc' L (v.toList ++ rest)))) : Goes p.tables e below P (T.setTop (mkF m pc L S)) := by
  subst hp hc' hs' hst has
  obtain ⟨vm, k, rfl, hSi, hk⟩ := B
  obtain ⟨v1, _, ⟨T1, L1, k1, n1⟩, -, X1, hS1, hg1, ⟨Lc, hQ, l1, y1, z1⟩, st⟩ := callSS X hx hown (mvT hZ w1) (mvT hZ w2) (mvT hZ hwi) (mvT hZ hwc) hy (backOfS (W := W) hM hZ hwc hwi hf hlo) (g := mkF m pc L (argsL.reverse ++ rest)) rfl hsize (argsL := argsL) (rest := rest) (lenOf hpd hlen) rfl (by rw [← hW]; show 2 * 0 + _ ≤ _; omega) hd (fun _ _ => ⟨rfl, eT, hc, hs⟩)
  dsimp only [Pt.U, Pt.locs, Pt.cells, Pt.slots] at X1 l1 y1 z1 st hQ hS1 hg1
  subst l1 y1 z1
  subst eT
  exact (kk v1 (s.setVm T1.vm) T1 _ Lc X1 rfl hg1 ⟨_, _, rfl, hSi.trans hS1 (Nat.le_trans hk hg1), Nat.le_refl _⟩ (State.Warmed39.trans (t := s.setVm vm) hZ hS1.1) (by rw [show (s.setVm T1.vm).vm = T1.vm from rfl, hS1.1.alike.findClass]; exact hown) hQ).to st
theorem o_specialW (X : Stand p l e R s' m args below meth c T locs cells slots) (hx : p.tables.exec = Jvm.exec) (hZ : Z.Warmed39 s'.vm) {own : String} {index : Nat} {y : MethodName} {bytes : ByteArray} {maxL : Nat} {ret : Option FieldType} (hr : ret = none) (hy1 : y.name = "<init>") (hown : s'.vm.findClass own = some m.cls) (w1 : (Cond.methodLink own index y).before a0 Z = true) (w2 : (Cond.instanceMethod y).before a0 Z = true) (hy : y.cls ≠ "java/lang/invoke/MethodHandle" ∧ y.cls ≠ "java/lang/invoke/VarHandle") {a : Addr} {rm : Room} {as' : Array Value} {Q : Option Value → Heap → List Loc → Prop} (hM : MetW l Z y bytes maxL ret rm [] as' h Q) (hwc : (Cond.code y bytes maxL ret).before a0 Z = true) (hwi : (Cond.initialized y.cls).before a0 Z = true) (eT : T.heap = h) (B : Base s s' h) (hsize : L.size = c.maxLocals) {argsL rest : List Value} {W : Nat} {ps : List FieldType} {rr : Option FieldType} (hpd : parseMethodDescriptor y.desc = some ⟨ps, rr⟩) (hlen : argsL.length = ps.length) (hst : S = argsL.reverse ++ .ref a :: rest) (has : as' = (.ref a :: argsL).toArray) (hW : (rest.map fun v => v.category).sum = W) (hd : decode c.code pc = .ok (.invokespecial index, 3)) (hf : rm.frames + 1 ≤ R.frames) (hlo : W + (maxL + 11) + rm.locals ≤ R.locals) (hc : cells + rm.cells ≤ R.cells) (hs : slots + rm.slots ≤ R.slots) (hc' : cells + rm.cells = cells') (hs' : slots + rm.slots = slots') (hp : pc + 3 = pc')
    (kk : ∀ v s2 T' h' Lc, Stand p l e R s2 m args below meth c T' (locs ++ Lc) cells' slots' → T'.heap = h' → h.size ≤ h'.size → Base s s2 h' → Z.Warmed39 s2.vm → s2.vm.findClass own = some m.cls → Q v h' Lc → Goes p.tables e below P (T'.setTop (mkF m pc' L (v.toList ++ rest)))) : Goes p.tables e below P (T.setTop (mkF m pc L S)) := by
  subst hp hc' hs' hst has hr
  obtain ⟨vm, k, rfl, hSi, hk⟩ := B
  obtain ⟨v1, _, ⟨T1, L1, k1, n1⟩, -, X1, hS1, hg1, ⟨Lc, hQ, l1, y1, z1⟩, st⟩ := X.specialBackS hx hy1 hown (mvT hZ w1) (mvT hZ w2) (mvT hZ hwc) hy (backOfS (W := W) hM hZ hwc hwi hf hlo) (g := mkF m pc L (argsL.reverse ++ .ref a :: rest)) rfl hsize (Steps.refl _) (a := a) (argsL := argsL) (rest := rest) (lenOf hpd hlen) rfl (by rw [← hW]; show 2 * 0 + _ ≤ _; omega) hd (fun _ _ => ⟨rfl, eT, hc, hs⟩)
  dsimp only [Pt.U, Pt.locs, Pt.cells, Pt.slots] at X1 l1 y1 z1 st hQ hS1 hg1
  subst l1 y1 z1
  subst eT
  exact (kk v1 (s.setVm T1.vm) T1 _ Lc X1 rfl hg1 ⟨_, _, rfl, hSi.trans hS1 (Nat.le_trans hk hg1), Nat.le_refl _⟩ (State.Warmed39.trans (t := s.setVm vm) hZ hS1.1) (by rw [show (s.setVm T1.vm).vm = T1.vm from rfl, hS1.1.alike.findClass]; exact hown) hQ).to st
end Wide
def MetN (l : Launch) (Z : State) (EL : List (String × Nat)) (y : MethodName) (bytes : ByteArray) (maxL : Nat) (ret : Option FieldType) (rm : Room) (ws : List Jvm.Cond) (as' : Array Value) (h0 : Heap) (Q : Option Value → Heap → List Loc → Prop) : Prop :=
  MetFree l y (head1 (Jvm.Cond.code y bytes maxL ret :: ws) rm) (fun a U => a = as' ∧ Z.Warmed39 U.vm ∧ U.heap = h0 ∧ CHv Z EL U.vm h0) (fun _ _ _ _ _ => True) (fun _ U o U' => ∃ v L, o = .returned v ∧ Q v U'.heap L ∧ ReturnedEndW U o U' L rm.cells rm.slots)
section Held
variable {s' : State} {EL : List (String × Nat)} {vm0 : Vm}
variable {p : Program} {l : Launch} {e : Env} {R : Room} {s : State} {m : MethodId} {args : Array Value} {below : List Frame} {meth : Method} {c : Code} {T : State} {locs : List Loc} {cells slots cells' slots' : Nat} {Z : State} {a0 : Array Value} {h : Heap} {P : Outcome → State → Prop} {pc pc' : Nat} {L L' : Array Slot} {S : List Value}
theorem metN_of {y : MethodName} {bytes : ByteArray} {maxL : Nat} {ret : Option FieldType} {rm : Room} {ws : List Jvm.Cond} {as' : Array Value} {h0 : Heap} {Q : Option Value → Heap → List Loc → Prop} {L0 : Array Slot}
    (hpn : plainFor y = true) (hef : ∀ m, entryFrame m as' maxL = mkF m 0 L0 [])
    (body : ∀ (p : Program) (e : Env) (s : State) (m : MethodId) (below : List Frame) (meth : Method) (c : Code) (T : State), p.tables.exec = Jvm.exec → c.code = bytes → c.maxLocals = maxL → s.vm.findClass y.cls = some m.cls → meth.name = y.name → meth.sig.returnType = ret → meth.locks = false → Z.Warmed39 s.vm → CHv Z EL s.vm h0 → Stand p l e rm s m as' below meth c T [] 0 0 → T.heap = h0 → Goes p.tables e below (EndsW s Q rm.cells rm.slots) (T.setTop (mkF m 0 L0 []))) :
    MetN l Z EL y bytes maxL ret rm ws as' h0 Q := by
  refine MetFree.of_bodySF hpn hisR ?_
  intro p e s m args below meth c s₁ Bd hml0 hP hK
  obtain ⟨rfl, hZ, hh, hH⟩ := hP
  have e0 : s₁.heap = h0 := by rw [← hh, Bd.state]; rfl
  obtain ⟨s₂, o, h1, h2, h3, h4⟩ := body p e s m below meth c s₁ Bd.exec Bd.bytes hml0 (findClass_of_methodNamed Bd.named) (name_of_methodNamed Bd.named Bd.method).1 Bd.returns (BodyLoose.notSynchronized Bd) hZ hH (Stand.of_body Bd) e0
  exact ⟨s₂, o, castTop (hef m) h1, h2, h3, h4⟩
theorem own_safeE {h' : Heap} {x : Addr} (H : CHv Z EL vm0 h) (E : Ext h h') (S : Safe Z EL vm0 h x) : Safe Z EL vm0 h' x := fun B => S ((H.step fun _ _ _ q => E.2 _ _ q).2 _ B)
theorem backOfN {y : MethodName} {bytes : ByteArray} {maxL : Nat} {ret : Option FieldType} {rm : Room} {len W : Nat} {as' : Array Value} {Q : Option Value → Heap → List Loc → Prop}
    (hM : MetN l Z EL y bytes maxL ret rm [] as' h Q) (hZ : Z.Warmed39 vm0) (wc : (Cond.code y bytes maxL ret).before a0 Z = true) (wz : (Cond.initialized y.cls).before a0 Z = true) (hf : rm.frames + 1 ≤ R.frames) (hl : W + (maxL + 11) + rm.locals ≤ R.locals) (hEL : EW Z a0 EL) (H : CHv Z EL vm0 h) :
    BackS l R p e below (s.setVm vm0) args y len W (fun A a => a = as' ∧ A.U.heap = h ∧ A.cells + rm.cells ≤ R.cells ∧ A.slots + rm.slots ≤ R.slots)
      (fun A _ v B => ∃ L, Q v B.U.heap L ∧ B.locs = A.locs ++ L ∧ B.cells = A.cells + rm.cells ∧ B.slots = A.slots + rm.slots) := by
  refine BackS.of_freeW (bytes := bytes) (maxL := maxL) (ret := ret) (E := fun _ _ o t L k n => k = rm.cells ∧ n = rm.slots ∧ ∃ v, o = .returned v ∧ Q v t.heap L) hM hf hl ?_ ?_ ?_ ?_ ?_
  · intro m meth c A a Y hp
    have hU : Z.Warmed39 A.U.vm := wtrans (s := s.setVm vm0) hZ Y.warmed
    exact ⟨by show (Cond.and _ .tt).before a A.U = true; rw [Cond.before_and, mvT hU wc]; rfl, mvT hU wc, mvT hU wz, hp.2.2.1, hp.2.2.2⟩
  · intro m meth c A a g mk Y hp
    exact ⟨hp.1, wtrans (s := s.setVm vm0) hZ Y.warmed, hp.2.1, (CHv.at Y hZ hEL H).1⟩
  · intros; trivial
  · rintro a first o t ⟨v, L, h1, h2, h3⟩
    exact ⟨L, _, _, h3, rfl, rfl, v, h1, h2⟩
  · rintro m meth c A a g mk v t L k n Y hp - - ⟨e1, e2, v', e3, e4⟩
    cases e3; subst e1 e2
    exact ⟨L, e4, rfl, rfl, rfl⟩
theorem o_ldcH (X : Stand p l e R s' m args below meth c T locs cells slots) (hx : p.tables.exec = Jvm.exec) (hZ : Z.Warmed39 s'.vm) {own text : String} {index : Nat} (hown : s'.vm.findClass own = some m.cls) (w : (Cond.stringLink own index text).before a0 Z = true) (wS : ∀ a ∈ Bundle.stringAtoms, a.before a0 Z = true) (eT : T.heap = h) (B : Base s s' h) (hEL : EW Z a0 EL) (hmem : (own, index) ∈ EL) (H : CHv Z EL s'.vm h) {vs : List Value} {z : Int32} (ht : (∀ c ∈ text.toList, c.toNat < 256) ∧ text.toList.map (fun c => Value.int (Jvm.Lit.byteI c.toNat.toUInt16)) = vs) (hz : ¬ z < 0) (hvl : z.toNatClampNeg = vs.length) (hd : decode c.code pc = .ok (.ldc index, 2)) {n : Nat} (hn : 4 * text.toList.length ≤ n) (hbig : n ≤ 536870912) (hc : cells + 2 ≤ R.cells) (hl : slots + (n + 4) ≤ R.slots) (hc' : cells + 2 = cells') (hs' : slots + (n + 4) = slots') (hp : pc + 2 = pc')
    (kk : ∀ s2 T' h' a b k, Stand p l e R s2 m args below meth c T' locs cells' slots' → T'.heap = h' → Ext h h' → Base s s2 h' → Z.Warmed39 s2.vm → s2.vm.findClass own = some m.cls → Exa Z h' a "java/lang/String" → Fld Z h' a "java/lang/String" "coder" "B" (.int 0) → Fld Z h' a "java/lang/String" "value" "[B" (.ref b) → Arv Z h' b k .byte z vs (.int 0) → CHv Z EL s2.vm h' → (∀ x, x < h.size → Safe Z EL s'.vm h x → x ≠ a ∧ x ≠ b) → Goes p.tables e below P (T'.setTop (mkF m pc' L (.ref a :: S)))) : Goes p.tables e below P (T.setTop (mkF m pc L S)) := by
  subst hp hc' hs'
  obtain ⟨vm, k, rfl, hSi, hk⟩ := B
  obtain ⟨a, T', h', k1, b, kb, X', e', E', hS', hk', hZ', ho', Ea, Fc, Fv, Ab, -, -, C', -, hs', st⟩ := ldcCH X hx hZ hown w wS eT hSi hk hEL hmem H ht hz hvl (g := mkF m pc L S) rfl hd hn hbig hc hl
  exact (kk _ T' h' a b kb X' e' E' ⟨_, _, rfl, hS', hk'⟩ hZ' ho' Ea Fc Fv Ab C'.1 (fun x hx hs => hs' x (C'.safe hx hs))).on st
theorem o_staticH (X : Stand p l e R s' m args below meth c T locs cells slots) (hx : p.tables.exec = Jvm.exec) (hZ : Z.Warmed39 s'.vm) {own : String} {index : Nat} {y : MethodName} {bytes : ByteArray} {maxL : Nat} {ret : Option FieldType} (hown : s'.vm.findClass own = some m.cls) (w1 : (Cond.methodLink own index y).before a0 Z = true) (w2 : (Cond.static y).before a0 Z = true) (hy : y.cls ≠ "java/lang/invoke/MethodHandle" ∧ y.cls ≠ "java/lang/invoke/VarHandle") {rm : Room} {as' : Array Value} {Q : Option Value → Heap → List Loc → Prop} (hM : MetN l Z EL y bytes maxL ret rm [] as' h Q) (hwc : (Cond.code y bytes maxL ret).before a0 Z = true) (hwi : (Cond.initialized y.cls).before a0 Z = true) (eT : T.heap = h) (B : Base s s' h) (hEL : EW Z a0 EL) (H : CHv Z EL s'.vm h) (hsize : L.size = c.maxLocals) {argsL rest : List Value} {W : Nat} {ps : List FieldType} {rr : Option FieldType} (hpd : parseMethodDescriptor y.desc = some ⟨ps, rr⟩) (hlen : argsL.length = ps.length) (hst : S = argsL.reverse ++ rest) (has : as' = (argsL).toArray) (hW : (rest.map fun v => v.category).sum = W) (hd : decode c.code pc = .ok (.invokestatic index, 3)) (hf : rm.frames + 1 ≤ R.frames) (hlo : W + (maxL + 11) + rm.locals ≤ R.locals) (hc : cells + rm.cells ≤ R.cells) (hs : slots + rm.slots ≤ R.slots) (hc' : cells + rm.cells = cells') (hs' : slots + rm.slots = slots') (hp : pc + 3 = pc')
    (kk : ∀ v s2 T' h' Lc, Stand p l e R s2 m args below meth c T' (locs ++ Lc) cells' slots' → T'.heap = h' → h.size ≤ h'.size → Base s s2 h' → Z.Warmed39 s2.vm → s2.vm.findClass own = some m.cls → Q v h' Lc → Goes p.tables e below P (T'.setTop (mkF m pc' L (v.toList ++ rest)))) : Goes p.tables e below P (T.setTop (mkF m pc L S)) := by
  subst hp hc' hs' hst has
  obtain ⟨vm, k, rfl, hSi, hk⟩ := B
  obtain ⟨v1, _, ⟨T1, L1, k1, n1⟩, -, X1, hS1, hg1, ⟨Lc, hQ, l1, y1, z1⟩, st⟩ := callSS X hx hown (mvT hZ w1) (mvT hZ w2) (mvT hZ hwi) (mvT hZ hwc) hy (backOfN (W := W) hM hZ hwc hwi hf hlo hEL H) (g := mkF m pc L (argsL.reverse ++ rest)) rfl hsize (argsL := argsL) (rest := rest) (lenOf hpd hlen) rfl (by rw [← hW]; show 2 * 0 + _ ≤ _; omega) hd (fun _ _ => ⟨rfl, eT, hc, hs⟩)
  dsimp only [Pt.U, Pt.locs, Pt.cells, Pt.slots] at X1 l1 y1 z1 st hQ hS1 hg1
  subst l1 y1 z1
  subst eT
  exact (kk v1 (s.setVm T1.vm) T1 _ Lc X1 rfl hg1 ⟨_, _, rfl, hSi.trans hS1 (Nat.le_trans hk hg1), Nat.le_refl _⟩ (State.Warmed39.trans (t := s.setVm vm) hZ hS1.1) (by rw [show (s.setVm T1.vm).vm = T1.vm from rfl, hS1.1.alike.findClass]; exact hown) hQ).to st
end Held
theorem own_sa {Z : State} {a0 : Array Value} (hw : ∀ d ∈ tables_1, d.before a0 Z = true) : ∀ d ∈ Bundle.stringAtoms, d.before a0 Z = true := fun d hd => hw d ((by decide +kernel : ∀ d ∈ Bundle.stringAtoms, d ∈ tables_1) d hd)
theorem own_fld {Z : State} {args : Array Value} {t : Term} {a : Addr} {C n d : String} {v : Value} (ev : t.eval args Z none [] Z = some (.ref a)) (h : (Term.field t C n d).eval args Z none [] Z = some v) : Fld Z Z.heap a C n d v := Fld.start (by simpa [Term.eval, ev] using h)
theorem own_arv0 {Z : State} {args : Array Value} {t : Term} {a : Addr} {ty : FieldType} {dv : Value} (hf : Fit Z) (ev : t.eval args Z none [] Z = some (.ref a)) (hx : (Cond.arrayOf t ty).value args Z none Z [] = some true) (h : (Term.length t).eval args Z none [] Z = some (.int 0)) : ∃ k, Arv Z Z.heap a k ty 0 [] dv := by
  obtain ⟨cl, A⟩ := Arr.start ev hx
  simp only [Term.eval, ev, Option.bind_eq_bind, Option.bind_some] at h
  obtain ⟨cell, hcell, h⟩ := Option.bind_eq_some_iff.mp h
  have hc := (State.arrayAt?_spec hcell).1
  cases Option.some.inj (A.1.symm.trans hc)
  by_cases hn : cl.slots.size < 2147483648
  · rw [if_pos hn] at h
    exact ⟨cl.cls, Arv.start hf A hn (by injection h with h; injection h) (by decide) rfl trivial⟩
  · rw [if_neg hn] at h; cases h
theorem own_ins {Z : State} {h : Heap} {a : Addr} {C K : String} {t : ClassId} (E : Exa Z h a C) (hk : Z.vm.findClass K = some t) : Ins Z h a K true ∨ ∃ c t, Z.vm.findClass C = some c ∧ Z.vm.findClass K = some t ∧ Z.vm.assignable c t = false := by
  obtain ⟨cell, k, h1, h2, h3, h4, -⟩ := E
  by_cases q : Z.vm.assignable cell.cls t = true
  · exact Or.inl ⟨cell, t, h1, hk, by rw [h4, q]; rfl⟩
  · exact Or.inr ⟨_, t, h2, hk, by simpa using q⟩
theorem wd0 {Z : State} {a0 : Array Value} (hw : ∀ d ∈ tables_1, d.before a0 Z = true) : (Jvm.Cond.methodLink "com/example/redoubt/redoubt/CommandNoopPinLaw" (7 : Nat) ({ cls := "com/example/redoubt/redoubt/Command", name := "noop", desc := "()Lcom/example/redoubt/redoubt/Command;" } : Jvm.MethodName)).before a0 Z = true := hw _ (List.mem_of_getElem? (i := 0) rfl)
theorem wd1 {Z : State} {a0 : Array Value} (hw : ∀ d ∈ tables_1, d.before a0 Z = true) : (Jvm.Cond.static ({ cls := "com/example/redoubt/redoubt/Command", name := "noop", desc := "()Lcom/example/redoubt/redoubt/Command;" } : Jvm.MethodName)).before a0 Z = true := hw _ (List.mem_of_getElem? (i := 1) rfl)
theorem wd2 {Z : State} {a0 : Array Value} (hw : ∀ d ∈ tables_1, d.before a0 Z = true) : (Jvm.Cond.initialized "com/example/redoubt/redoubt/Command").before a0 Z = true := hw _ (List.mem_of_getElem? (i := 2) rfl)
theorem wd3 {Z : State} {a0 : Array Value} (hw : ∀ d ∈ tables_1, d.before a0 Z = true) : (Jvm.Cond.code ({ cls := "com/example/redoubt/redoubt/Command", name := "noop", desc := "()Lcom/example/redoubt/redoubt/Command;" } : Jvm.MethodName) prog_9_method_5_code (0 : Nat) (Option.some (Jvm.ClassFile.FieldType.object "com/example/redoubt/redoubt/Command"))).before a0 Z = true := hw _ (List.mem_of_getElem? (i := 3) rfl)
theorem wd4 {Z : State} {a0 : Array Value} (hw : ∀ d ∈ tables_1, d.before a0 Z = true) : (Jvm.Cond.classLink "com/example/redoubt/redoubt/Command" (8 : Nat) "com/example/redoubt/redoubt/Command").before a0 Z = true := hw _ (List.mem_of_getElem? (i := 4) rfl)
theorem wd5 {Z : State} {a0 : Array Value} (hw : ∀ d ∈ tables_1, d.before a0 Z = true) : (Jvm.Cond.instantiable "com/example/redoubt/redoubt/Command" (3 : Nat)).before a0 Z = true := hw _ (List.mem_of_getElem? (i := 5) rfl)
theorem wd6 {Z : State} {a0 : Array Value} (hw : ∀ d ∈ tables_1, d.before a0 Z = true) : (Jvm.Cond.fieldLink "com/example/redoubt/redoubt/Command" (54 : Nat) "com/example/redoubt/redoubt/Command$Op" "NOOP" "Lcom/example/redoubt/redoubt/Command$Op;").before a0 Z = true := hw _ (List.mem_of_getElem? (i := 6) rfl)
theorem wd7 {Z : State} {a0 : Array Value} (hw : ∀ d ∈ tables_1, d.before a0 Z = true) : (Jvm.Cond.initialized "com/example/redoubt/redoubt/Command$Op").before a0 Z = true := hw _ (List.mem_of_getElem? (i := 7) rfl)
theorem wd8 {Z : State} {a0 : Array Value} (hw : ∀ d ∈ tables_1, d.before a0 Z = true) : (Jvm.Cond.laysStatic "com/example/redoubt/redoubt/Command$Op" "NOOP" "Lcom/example/redoubt/redoubt/Command$Op;").before a0 Z = true := hw _ (List.mem_of_getElem? (i := 8) rfl)
theorem wd9 {Z : State} {a0 : Array Value} (hw : ∀ d ∈ tables_1, d.before a0 Z = true) : (Jvm.Cond.stringLink "com/example/redoubt/redoubt/Command" (57 : Nat) "").before a0 Z = true := hw _ (List.mem_of_getElem? (i := 9) rfl)
theorem wd10 {Z : State} {a0 : Array Value} (hw : ∀ d ∈ tables_1, d.before a0 Z = true) : (Jvm.Cond.initialized "java/lang/String").before a0 Z = true := hw _ (List.mem_of_getElem? (i := 10) rfl)
theorem wd11 {Z : State} {a0 : Array Value} (hw : ∀ d ∈ tables_1, d.before a0 Z = true) : (Jvm.Cond.instantiable "java/lang/String" (4 : Nat)).before a0 Z = true := hw _ (List.mem_of_getElem? (i := 11) rfl)
theorem wd12 {Z : State} {a0 : Array Value} (hw : ∀ d ∈ tables_1, d.before a0 Z = true) : (Jvm.Cond.arrayClass Jvm.ClassFile.FieldType.byte).before a0 Z = true := hw _ (List.mem_of_getElem? (i := 12) rfl)
theorem wd17 {Z : State} {a0 : Array Value} (hw : ∀ d ∈ tables_1, d.before a0 Z = true) : (Jvm.Cond.fieldLink "com/example/redoubt/redoubt/Command" (51 : Nat) "com/example/redoubt/redoubt/Command" "NO_VALUE" "[B").before a0 Z = true := hw _ (List.mem_of_getElem? (i := 17) rfl)
theorem wd18 {Z : State} {a0 : Array Value} (hw : ∀ d ∈ tables_1, d.before a0 Z = true) : (Jvm.Cond.laysStatic "com/example/redoubt/redoubt/Command" "NO_VALUE" "[B").before a0 Z = true := hw _ (List.mem_of_getElem? (i := 18) rfl)
theorem wd19 {Z : State} {a0 : Array Value} (hw : ∀ d ∈ tables_1, d.before a0 Z = true) : (Jvm.Cond.methodLink "com/example/redoubt/redoubt/Command" (26 : Nat) ({ cls := "com/example/redoubt/redoubt/Command", name := "<init>", desc := "(Lcom/example/redoubt/redoubt/Command$Op;Ljava/lang/String;[B)V" } : Jvm.MethodName)).before a0 Z = true := hw _ (List.mem_of_getElem? (i := 19) rfl)
theorem wd20 {Z : State} {a0 : Array Value} (hw : ∀ d ∈ tables_1, d.before a0 Z = true) : (Jvm.Cond.instanceMethod ({ cls := "com/example/redoubt/redoubt/Command", name := "<init>", desc := "(Lcom/example/redoubt/redoubt/Command$Op;Ljava/lang/String;[B)V" } : Jvm.MethodName)).before a0 Z = true := hw _ (List.mem_of_getElem? (i := 20) rfl)
theorem wd21 {Z : State} {a0 : Array Value} (hw : ∀ d ∈ tables_1, d.before a0 Z = true) : (Jvm.Cond.code ({ cls := "com/example/redoubt/redoubt/Command", name := "<init>", desc := "(Lcom/example/redoubt/redoubt/Command$Op;Ljava/lang/String;[B)V" } : Jvm.MethodName) prog_9_method_1_code (4 : Nat) (Option.none : Option Jvm.ClassFile.FieldType)).before a0 Z = true := hw _ (List.mem_of_getElem? (i := 21) rfl)
theorem wd22 {Z : State} {a0 : Array Value} (hw : ∀ d ∈ tables_1, d.before a0 Z = true) : (Jvm.Cond.methodLink "com/example/redoubt/redoubt/Command" (1 : Nat) ({ cls := "java/lang/Record", name := "<init>", desc := "()V" } : Jvm.MethodName)).before a0 Z = true := hw _ (List.mem_of_getElem? (i := 22) rfl)
theorem wd23 {Z : State} {a0 : Array Value} (hw : ∀ d ∈ tables_1, d.before a0 Z = true) : (Jvm.Cond.instanceMethod ({ cls := "java/lang/Record", name := "<init>", desc := "()V" } : Jvm.MethodName)).before a0 Z = true := hw _ (List.mem_of_getElem? (i := 23) rfl)
theorem wd25 {Z : State} {a0 : Array Value} (hw : ∀ d ∈ tables_1, d.before a0 Z = true) : (Jvm.Cond.initialized "java/lang/Record").before a0 Z = true := hw _ (List.mem_of_getElem? (i := 25) rfl)
theorem wd26 {Z : State} {a0 : Array Value} (hw : ∀ d ∈ tables_1, d.before a0 Z = true) : (Jvm.Cond.code ({ cls := "java/lang/Record", name := "<init>", desc := "()V" } : Jvm.MethodName) jdk_30_method_1_code (1 : Nat) (Option.none : Option Jvm.ClassFile.FieldType)).before a0 Z = true := hw _ (List.mem_of_getElem? (i := 26) rfl)
theorem wd27 {Z : State} {a0 : Array Value} (hw : ∀ d ∈ tables_1, d.before a0 Z = true) : (Jvm.Cond.methodLink "java/lang/Record" (1 : Nat) ({ cls := "java/lang/Object", name := "<init>", desc := "()V" } : Jvm.MethodName)).before a0 Z = true := hw _ (List.mem_of_getElem? (i := 27) rfl)
theorem wd28 {Z : State} {a0 : Array Value} (hw : ∀ d ∈ tables_1, d.before a0 Z = true) : (Jvm.Cond.instanceMethod ({ cls := "java/lang/Object", name := "<init>", desc := "()V" } : Jvm.MethodName)).before a0 Z = true := hw _ (List.mem_of_getElem? (i := 28) rfl)
theorem wd29 {Z : State} {a0 : Array Value} (hw : ∀ d ∈ tables_1, d.before a0 Z = true) : (Jvm.Cond.code ({ cls := "java/lang/Object", name := "<init>", desc := "()V" } : Jvm.MethodName) object_method_1_code (1 : Nat) (Option.none : Option Jvm.ClassFile.FieldType)).before a0 Z = true := hw _ (List.mem_of_getElem? (i := 29) rfl)
theorem wd30 {Z : State} {a0 : Array Value} (hw : ∀ d ∈ tables_1, d.before a0 Z = true) : (Jvm.Cond.fieldLink "com/example/redoubt/redoubt/Command" (7 : Nat) "com/example/redoubt/redoubt/Command" "op" "Lcom/example/redoubt/redoubt/Command$Op;").before a0 Z = true := hw _ (List.mem_of_getElem? (i := 30) rfl)
theorem wd31 {Z : State} {a0 : Array Value} (hw : ∀ d ∈ tables_1, d.before a0 Z = true) : (Jvm.Cond.laysFinal "com/example/redoubt/redoubt/Command" "com/example/redoubt/redoubt/Command" "op" "Lcom/example/redoubt/redoubt/Command$Op;").before a0 Z = true := hw _ (List.mem_of_getElem? (i := 31) rfl)
theorem wd32 {Z : State} {a0 : Array Value} (hw : ∀ d ∈ tables_1, d.before a0 Z = true) : (Jvm.Cond.fieldLink "com/example/redoubt/redoubt/Command" (13 : Nat) "com/example/redoubt/redoubt/Command" "key" "Ljava/lang/String;").before a0 Z = true := hw _ (List.mem_of_getElem? (i := 32) rfl)
theorem wd33 {Z : State} {a0 : Array Value} (hw : ∀ d ∈ tables_1, d.before a0 Z = true) : (Jvm.Cond.laysFinal "com/example/redoubt/redoubt/Command" "com/example/redoubt/redoubt/Command" "key" "Ljava/lang/String;").before a0 Z = true := hw _ (List.mem_of_getElem? (i := 33) rfl)
theorem wd34 {Z : State} {a0 : Array Value} (hw : ∀ d ∈ tables_1, d.before a0 Z = true) : (Jvm.Cond.fieldLink "com/example/redoubt/redoubt/Command" (17 : Nat) "com/example/redoubt/redoubt/Command" "value" "[B").before a0 Z = true := hw _ (List.mem_of_getElem? (i := 34) rfl)
theorem wd35 {Z : State} {a0 : Array Value} (hw : ∀ d ∈ tables_1, d.before a0 Z = true) : (Jvm.Cond.laysFinal "com/example/redoubt/redoubt/Command" "com/example/redoubt/redoubt/Command" "value" "[B").before a0 Z = true := hw _ (List.mem_of_getElem? (i := 35) rfl)
theorem wd36 {Z : State} {a0 : Array Value} (hw : ∀ d ∈ tables_1, d.before a0 Z = true) : (Jvm.Cond.methodLink "com/example/redoubt/redoubt/CommandNoopPinLaw" (13 : Nat) ({ cls := "com/example/redoubt/redoubt/Command", name := "op", desc := "()Lcom/example/redoubt/redoubt/Command$Op;" } : Jvm.MethodName)).before a0 Z = true := hw _ (List.mem_of_getElem? (i := 36) rfl)
theorem wd37 {Z : State} {a0 : Array Value} (hw : ∀ d ∈ tables_1, d.before a0 Z = true) : (Jvm.Cond.declares ({ cls := "com/example/redoubt/redoubt/Command", name := "op", desc := "()Lcom/example/redoubt/redoubt/Command$Op;" } : Jvm.MethodName)).before a0 Z = true := hw _ (List.mem_of_getElem? (i := 37) rfl)
theorem wd38 {Z : State} {a0 : Array Value} (hw : ∀ d ∈ tables_1, d.before a0 Z = true) : (Jvm.Cond.instanceMethod ({ cls := "com/example/redoubt/redoubt/Command", name := "op", desc := "()Lcom/example/redoubt/redoubt/Command$Op;" } : Jvm.MethodName)).before a0 Z = true := hw _ (List.mem_of_getElem? (i := 38) rfl)
theorem wd39 {Z : State} {a0 : Array Value} (hw : ∀ d ∈ tables_1, d.before a0 Z = true) : (Jvm.Cond.selects "com/example/redoubt/redoubt/Command" ({ cls := "com/example/redoubt/redoubt/Command", name := "op", desc := "()Lcom/example/redoubt/redoubt/Command$Op;" } : Jvm.MethodName) ({ cls := "com/example/redoubt/redoubt/Command", name := "op", desc := "()Lcom/example/redoubt/redoubt/Command$Op;" } : Jvm.MethodName)).before a0 Z = true := hw _ (List.mem_of_getElem? (i := 39) rfl)
theorem wd40 {Z : State} {a0 : Array Value} (hw : ∀ d ∈ tables_1, d.before a0 Z = true) : (Jvm.Cond.code ({ cls := "com/example/redoubt/redoubt/Command", name := "op", desc := "()Lcom/example/redoubt/redoubt/Command$Op;" } : Jvm.MethodName) prog_9_method_17_code (1 : Nat) (Option.some (Jvm.ClassFile.FieldType.object "com/example/redoubt/redoubt/Command$Op"))).before a0 Z = true := hw _ (List.mem_of_getElem? (i := 40) rfl)
theorem wd41 {Z : State} {a0 : Array Value} (hw : ∀ d ∈ tables_1, d.before a0 Z = true) : (Jvm.Cond.methodLink "com/example/redoubt/redoubt/CommandNoopPinLaw" (17 : Nat) ({ cls := "com/example/redoubt/redoubt/Command", name := "key", desc := "()Ljava/lang/String;" } : Jvm.MethodName)).before a0 Z = true := hw _ (List.mem_of_getElem? (i := 41) rfl)
theorem wd42 {Z : State} {a0 : Array Value} (hw : ∀ d ∈ tables_1, d.before a0 Z = true) : (Jvm.Cond.declares ({ cls := "com/example/redoubt/redoubt/Command", name := "key", desc := "()Ljava/lang/String;" } : Jvm.MethodName)).before a0 Z = true := hw _ (List.mem_of_getElem? (i := 42) rfl)
theorem wd43 {Z : State} {a0 : Array Value} (hw : ∀ d ∈ tables_1, d.before a0 Z = true) : (Jvm.Cond.instanceMethod ({ cls := "com/example/redoubt/redoubt/Command", name := "key", desc := "()Ljava/lang/String;" } : Jvm.MethodName)).before a0 Z = true := hw _ (List.mem_of_getElem? (i := 43) rfl)
theorem wd44 {Z : State} {a0 : Array Value} (hw : ∀ d ∈ tables_1, d.before a0 Z = true) : (Jvm.Cond.selects "com/example/redoubt/redoubt/Command" ({ cls := "com/example/redoubt/redoubt/Command", name := "key", desc := "()Ljava/lang/String;" } : Jvm.MethodName) ({ cls := "com/example/redoubt/redoubt/Command", name := "key", desc := "()Ljava/lang/String;" } : Jvm.MethodName)).before a0 Z = true := hw _ (List.mem_of_getElem? (i := 44) rfl)
theorem wd45 {Z : State} {a0 : Array Value} (hw : ∀ d ∈ tables_1, d.before a0 Z = true) : (Jvm.Cond.code ({ cls := "com/example/redoubt/redoubt/Command", name := "key", desc := "()Ljava/lang/String;" } : Jvm.MethodName) prog_9_method_18_code (1 : Nat) (Option.some (Jvm.ClassFile.FieldType.object "java/lang/String"))).before a0 Z = true := hw _ (List.mem_of_getElem? (i := 45) rfl)
theorem wd46 {Z : State} {a0 : Array Value} (hw : ∀ d ∈ tables_1, d.before a0 Z = true) : (Jvm.Cond.methodLink "com/example/redoubt/redoubt/CommandNoopPinLaw" (21 : Nat) ({ cls := "com/example/redoubt/redoubt/Command", name := "value", desc := "()[B" } : Jvm.MethodName)).before a0 Z = true := hw _ (List.mem_of_getElem? (i := 46) rfl)
theorem wd47 {Z : State} {a0 : Array Value} (hw : ∀ d ∈ tables_1, d.before a0 Z = true) : (Jvm.Cond.declares ({ cls := "com/example/redoubt/redoubt/Command", name := "value", desc := "()[B" } : Jvm.MethodName)).before a0 Z = true := hw _ (List.mem_of_getElem? (i := 47) rfl)
theorem wd48 {Z : State} {a0 : Array Value} (hw : ∀ d ∈ tables_1, d.before a0 Z = true) : (Jvm.Cond.instanceMethod ({ cls := "com/example/redoubt/redoubt/Command", name := "value", desc := "()[B" } : Jvm.MethodName)).before a0 Z = true := hw _ (List.mem_of_getElem? (i := 48) rfl)
theorem wd49 {Z : State} {a0 : Array Value} (hw : ∀ d ∈ tables_1, d.before a0 Z = true) : (Jvm.Cond.selects "com/example/redoubt/redoubt/Command" ({ cls := "com/example/redoubt/redoubt/Command", name := "value", desc := "()[B" } : Jvm.MethodName) ({ cls := "com/example/redoubt/redoubt/Command", name := "value", desc := "()[B" } : Jvm.MethodName)).before a0 Z = true := hw _ (List.mem_of_getElem? (i := 49) rfl)
theorem wd50 {Z : State} {a0 : Array Value} (hw : ∀ d ∈ tables_1, d.before a0 Z = true) : (Jvm.Cond.code ({ cls := "com/example/redoubt/redoubt/Command", name := "value", desc := "()[B" } : Jvm.MethodName) prog_9_method_19_code (1 : Nat) (Option.some (Jvm.ClassFile.FieldType.array Jvm.ClassFile.FieldType.byte))).before a0 Z = true := hw _ (List.mem_of_getElem? (i := 50) rfl)
theorem wd51 {Z : State} {a0 : Array Value} (hw : ∀ d ∈ tables_1, d.before a0 Z = true) : (Jvm.Cond.fieldLink "com/example/redoubt/redoubt/CommandNoopPinLaw" (25 : Nat) "com/example/redoubt/redoubt/Command$Op" "NOOP" "Lcom/example/redoubt/redoubt/Command$Op;").before a0 Z = true := hw _ (List.mem_of_getElem? (i := 51) rfl)
theorem wd52 {Z : State} {a0 : Array Value} (hw : ∀ d ∈ tables_1, d.before a0 Z = true) : (Jvm.Cond.methodLink "com/example/redoubt/redoubt/CommandNoopPinLaw" (31 : Nat) ({ cls := "com/example/redoubt/redoubt/Command$Op", name := "code", desc := "()I" } : Jvm.MethodName)).before a0 Z = true := hw _ (List.mem_of_getElem? (i := 52) rfl)
theorem wd53 {Z : State} {a0 : Array Value} (hw : ∀ d ∈ tables_1, d.before a0 Z = true) : (Jvm.Cond.declares ({ cls := "com/example/redoubt/redoubt/Command$Op", name := "code", desc := "()I" } : Jvm.MethodName)).before a0 Z = true := hw _ (List.mem_of_getElem? (i := 53) rfl)
theorem wd54 {Z : State} {a0 : Array Value} (hw : ∀ d ∈ tables_1, d.before a0 Z = true) : (Jvm.Cond.instanceMethod ({ cls := "com/example/redoubt/redoubt/Command$Op", name := "code", desc := "()I" } : Jvm.MethodName)).before a0 Z = true := hw _ (List.mem_of_getElem? (i := 54) rfl)
theorem wd55 {Z : State} {a0 : Array Value} (hw : ∀ d ∈ tables_1, d.before a0 Z = true) : (Jvm.Cond.selects "com/example/redoubt/redoubt/Command$Op" ({ cls := "com/example/redoubt/redoubt/Command$Op", name := "code", desc := "()I" } : Jvm.MethodName) ({ cls := "com/example/redoubt/redoubt/Command$Op", name := "code", desc := "()I" } : Jvm.MethodName)).before a0 Z = true := hw _ (List.mem_of_getElem? (i := 55) rfl)
theorem wd56 {Z : State} {a0 : Array Value} (hw : ∀ d ∈ tables_1, d.before a0 Z = true) : (Jvm.Cond.code ({ cls := "com/example/redoubt/redoubt/Command$Op", name := "code", desc := "()I" } : Jvm.MethodName) prog_10_method_4_code (1 : Nat) (Option.some Jvm.ClassFile.FieldType.int)).before a0 Z = true := hw _ (List.mem_of_getElem? (i := 56) rfl)
theorem wd57 {Z : State} {a0 : Array Value} (hw : ∀ d ∈ tables_1, d.before a0 Z = true) : (Jvm.Cond.fieldLink "com/example/redoubt/redoubt/Command$Op" (41 : Nat) "com/example/redoubt/redoubt/Command$Op" "code" "I").before a0 Z = true := hw _ (List.mem_of_getElem? (i := 57) rfl)
theorem wd59 {Z : State} {a0 : Array Value} (hw : ∀ d ∈ tables_1, d.before a0 Z = true) : (Jvm.Cond.methodLink "com/example/redoubt/redoubt/CommandNoopPinLaw" (35 : Nat) ({ cls := "java/lang/String", name := "isEmpty", desc := "()Z" } : Jvm.MethodName)).before a0 Z = true := hw _ (List.mem_of_getElem? (i := 59) rfl)
theorem wd60 {Z : State} {a0 : Array Value} (hw : ∀ d ∈ tables_1, d.before a0 Z = true) : (Jvm.Cond.declares ({ cls := "java/lang/String", name := "isEmpty", desc := "()Z" } : Jvm.MethodName)).before a0 Z = true := hw _ (List.mem_of_getElem? (i := 60) rfl)
theorem wd61 {Z : State} {a0 : Array Value} (hw : ∀ d ∈ tables_1, d.before a0 Z = true) : (Jvm.Cond.instanceMethod ({ cls := "java/lang/String", name := "isEmpty", desc := "()Z" } : Jvm.MethodName)).before a0 Z = true := hw _ (List.mem_of_getElem? (i := 61) rfl)
theorem wd62 {Z : State} {a0 : Array Value} (hw : ∀ d ∈ tables_1, d.before a0 Z = true) : (Jvm.Cond.selects "java/lang/String" ({ cls := "java/lang/String", name := "isEmpty", desc := "()Z" } : Jvm.MethodName) ({ cls := "java/lang/String", name := "isEmpty", desc := "()Z" } : Jvm.MethodName)).before a0 Z = true := hw _ (List.mem_of_getElem? (i := 62) rfl)
theorem wd63 {Z : State} {a0 : Array Value} (hw : ∀ d ∈ tables_1, d.before a0 Z = true) : (Jvm.Cond.code ({ cls := "java/lang/String", name := "isEmpty", desc := "()Z" } : Jvm.MethodName) jdk_42_method_55_code (1 : Nat) (Option.some Jvm.ClassFile.FieldType.boolean)).before a0 Z = true := hw _ (List.mem_of_getElem? (i := 63) rfl)
theorem wd64 {Z : State} {a0 : Array Value} (hw : ∀ d ∈ tables_1, d.before a0 Z = true) : (Jvm.Cond.fieldLink "java/lang/String" (9 : Nat) "java/lang/String" "value" "[B").before a0 Z = true := hw _ (List.mem_of_getElem? (i := 64) rfl)
theorem wd65 {Z : State} {a0 : Array Value} (hw : ∀ d ∈ tables_1, d.before a0 Z = true) : (Jvm.Cond.methodLink "com/example/redoubt/redoubt/CommandNoopPinLaw" (41 : Nat) ({ cls := "com/example/redoubt/redoubt/Command", name := "isWellFormed", desc := "(Lcom/example/redoubt/redoubt/Command$Op;Ljava/lang/String;[B)Z" } : Jvm.MethodName)).before a0 Z = true := hw _ (List.mem_of_getElem? (i := 65) rfl)
theorem wd66 {Z : State} {a0 : Array Value} (hw : ∀ d ∈ tables_1, d.before a0 Z = true) : (Jvm.Cond.static ({ cls := "com/example/redoubt/redoubt/Command", name := "isWellFormed", desc := "(Lcom/example/redoubt/redoubt/Command$Op;Ljava/lang/String;[B)Z" } : Jvm.MethodName)).before a0 Z = true := hw _ (List.mem_of_getElem? (i := 66) rfl)
theorem wd67 {Z : State} {a0 : Array Value} (hw : ∀ d ∈ tables_1, d.before a0 Z = true) : (Jvm.Cond.code ({ cls := "com/example/redoubt/redoubt/Command", name := "isWellFormed", desc := "(Lcom/example/redoubt/redoubt/Command$Op;Ljava/lang/String;[B)Z" } : Jvm.MethodName) prog_9_method_12_code (4 : Nat) (Option.some Jvm.ClassFile.FieldType.boolean)).before a0 Z = true := hw _ (List.mem_of_getElem? (i := 67) rfl)
theorem wd68 {Z : State} {a0 : Array Value} (hw : ∀ d ∈ tables_1, d.before a0 Z = true) : (Jvm.Cond.methodLink "com/example/redoubt/redoubt/Command" (100 : Nat) ({ cls := "com/example/redoubt/redoubt/Command$Op", name := "ordinal", desc := "()I" } : Jvm.MethodName)).before a0 Z = true := hw _ (List.mem_of_getElem? (i := 68) rfl)
theorem wd69 {Z : State} {a0 : Array Value} (hw : ∀ d ∈ tables_1, d.before a0 Z = true) : (Jvm.Cond.sameMethod "com/example/redoubt/redoubt/Command$Op" "java/lang/Enum" "ordinal" "()I").before a0 Z = true := hw _ (List.mem_of_getElem? (i := 69) rfl)
theorem wd70 {Z : State} {a0 : Array Value} (hw : ∀ d ∈ tables_1, d.before a0 Z = true) : (Jvm.Cond.declares ({ cls := "java/lang/Enum", name := "ordinal", desc := "()I" } : Jvm.MethodName)).before a0 Z = true := hw _ (List.mem_of_getElem? (i := 70) rfl)
theorem wd71 {Z : State} {a0 : Array Value} (hw : ∀ d ∈ tables_1, d.before a0 Z = true) : (Jvm.Cond.instanceMethod ({ cls := "java/lang/Enum", name := "ordinal", desc := "()I" } : Jvm.MethodName)).before a0 Z = true := hw _ (List.mem_of_getElem? (i := 71) rfl)
theorem wd72 {Z : State} {a0 : Array Value} (hw : ∀ d ∈ tables_1, d.before a0 Z = true) : (Jvm.Cond.selects "com/example/redoubt/redoubt/Command$Op" ({ cls := "com/example/redoubt/redoubt/Command$Op", name := "ordinal", desc := "()I" } : Jvm.MethodName) ({ cls := "java/lang/Enum", name := "ordinal", desc := "()I" } : Jvm.MethodName)).before a0 Z = true := hw _ (List.mem_of_getElem? (i := 72) rfl)
theorem wd73 {Z : State} {a0 : Array Value} (hw : ∀ d ∈ tables_1, d.before a0 Z = true) : (Jvm.Cond.initialized "java/lang/Enum").before a0 Z = true := hw _ (List.mem_of_getElem? (i := 73) rfl)
theorem wd74 {Z : State} {a0 : Array Value} (hw : ∀ d ∈ tables_1, d.before a0 Z = true) : (Jvm.Cond.code ({ cls := "java/lang/Enum", name := "ordinal", desc := "()I" } : Jvm.MethodName) jdk_37_method_2_code (1 : Nat) (Option.some Jvm.ClassFile.FieldType.int)).before a0 Z = true := hw _ (List.mem_of_getElem? (i := 74) rfl)
theorem wd75 {Z : State} {a0 : Array Value} (hw : ∀ d ∈ tables_1, d.before a0 Z = true) : (Jvm.Cond.fieldLink "java/lang/Enum" (7 : Nat) "java/lang/Enum" "ordinal" "I").before a0 Z = true := hw _ (List.mem_of_getElem? (i := 75) rfl)
theorem wd77 {Z : State} {a0 : Array Value} (hw : ∀ d ∈ tables_1, d.before a0 Z = true) : (Jvm.Cond.methodLink "com/example/redoubt/redoubt/Command" (139 : Nat) ({ cls := "java/lang/String", name := "isEmpty", desc := "()Z" } : Jvm.MethodName)).before a0 Z = true := hw _ (List.mem_of_getElem? (i := 77) rfl)
theorem wd78 {Z : State} {a0 : Array Value} (hw : ∀ d ∈ tables_1, d.before a0 Z = true) : (Jvm.Cond.methodLink "com/example/redoubt/redoubt/CommandNoopPinLaw" (45 : Nat) ({ cls := "com/example/redoubt/redoubt/Command", name := "asTransaction", desc := "()Lcom/example/redoubt/redoubt/Transaction;" } : Jvm.MethodName)).before a0 Z = true := hw _ (List.mem_of_getElem? (i := 78) rfl)
theorem wd79 {Z : State} {a0 : Array Value} (hw : ∀ d ∈ tables_1, d.before a0 Z = true) : (Jvm.Cond.declares ({ cls := "com/example/redoubt/redoubt/Command", name := "asTransaction", desc := "()Lcom/example/redoubt/redoubt/Transaction;" } : Jvm.MethodName)).before a0 Z = true := hw _ (List.mem_of_getElem? (i := 79) rfl)
theorem wd80 {Z : State} {a0 : Array Value} (hw : ∀ d ∈ tables_1, d.before a0 Z = true) : (Jvm.Cond.instanceMethod ({ cls := "com/example/redoubt/redoubt/Command", name := "asTransaction", desc := "()Lcom/example/redoubt/redoubt/Transaction;" } : Jvm.MethodName)).before a0 Z = true := hw _ (List.mem_of_getElem? (i := 80) rfl)
theorem wd81 {Z : State} {a0 : Array Value} (hw : ∀ d ∈ tables_1, d.before a0 Z = true) : (Jvm.Cond.selects "com/example/redoubt/redoubt/Command" ({ cls := "com/example/redoubt/redoubt/Command", name := "asTransaction", desc := "()Lcom/example/redoubt/redoubt/Transaction;" } : Jvm.MethodName) ({ cls := "com/example/redoubt/redoubt/Command", name := "asTransaction", desc := "()Lcom/example/redoubt/redoubt/Transaction;" } : Jvm.MethodName)).before a0 Z = true := hw _ (List.mem_of_getElem? (i := 81) rfl)
theorem wd82 {Z : State} {a0 : Array Value} (hw : ∀ d ∈ tables_1, d.before a0 Z = true) : (Jvm.Cond.code ({ cls := "com/example/redoubt/redoubt/Command", name := "asTransaction", desc := "()Lcom/example/redoubt/redoubt/Transaction;" } : Jvm.MethodName) prog_9_method_11_code (2 : Nat) (Option.some (Jvm.ClassFile.FieldType.object "com/example/redoubt/redoubt/Transaction"))).before a0 Z = true := hw _ (List.mem_of_getElem? (i := 82) rfl)
theorem wd83 {Z : State} {a0 : Array Value} (hw : ∀ d ∈ tables_1, d.before a0 Z = true) : (Jvm.Cond.classLink "com/example/redoubt/redoubt/Command" (33 : Nat) "com/example/redoubt/redoubt/Transaction$Operation").before a0 Z = true := hw _ (List.mem_of_getElem? (i := 83) rfl)
theorem wd84 {Z : State} {a0 : Array Value} (hw : ∀ d ∈ tables_1, d.before a0 Z = true) : (Jvm.Cond.arrayOver (Jvm.ClassFile.FieldType.object "com/example/redoubt/redoubt/Transaction$Operation")).before a0 Z = true := hw _ (List.mem_of_getElem? (i := 84) rfl)
theorem wd85 {Z : State} {a0 : Array Value} (hw : ∀ d ∈ tables_1, d.before a0 Z = true) : (Jvm.Cond.methodLink "com/example/redoubt/redoubt/Command" (38 : Nat) ({ cls := "com/example/redoubt/redoubt/Transaction", name := "of", desc := "([Lcom/example/redoubt/redoubt/Transaction$Operation;)Lcom/example/redoubt/redoubt/Transaction;" } : Jvm.MethodName)).before a0 Z = true := hw _ (List.mem_of_getElem? (i := 85) rfl)
theorem wd86 {Z : State} {a0 : Array Value} (hw : ∀ d ∈ tables_1, d.before a0 Z = true) : (Jvm.Cond.static ({ cls := "com/example/redoubt/redoubt/Transaction", name := "of", desc := "([Lcom/example/redoubt/redoubt/Transaction$Operation;)Lcom/example/redoubt/redoubt/Transaction;" } : Jvm.MethodName)).before a0 Z = true := hw _ (List.mem_of_getElem? (i := 86) rfl)
theorem wd87 {Z : State} {a0 : Array Value} (hw : ∀ d ∈ tables_1, d.before a0 Z = true) : (Jvm.Cond.initialized "com/example/redoubt/redoubt/Transaction").before a0 Z = true := hw _ (List.mem_of_getElem? (i := 87) rfl)
theorem wd88 {Z : State} {a0 : Array Value} (hw : ∀ d ∈ tables_1, d.before a0 Z = true) : (Jvm.Cond.code ({ cls := "com/example/redoubt/redoubt/Transaction", name := "of", desc := "([Lcom/example/redoubt/redoubt/Transaction$Operation;)Lcom/example/redoubt/redoubt/Transaction;" } : Jvm.MethodName) prog_57_method_2_code (1 : Nat) (Option.some (Jvm.ClassFile.FieldType.object "com/example/redoubt/redoubt/Transaction"))).before a0 Z = true := hw _ (List.mem_of_getElem? (i := 88) rfl)
theorem wd89 {Z : State} {a0 : Array Value} (hw : ∀ d ∈ tables_1, d.before a0 Z = true) : (Jvm.Cond.classLink "com/example/redoubt/redoubt/Transaction" (3 : Nat) "com/example/redoubt/redoubt/Transaction").before a0 Z = true := hw _ (List.mem_of_getElem? (i := 89) rfl)
theorem wd90 {Z : State} {a0 : Array Value} (hw : ∀ d ∈ tables_1, d.before a0 Z = true) : (Jvm.Cond.instantiable "com/example/redoubt/redoubt/Transaction" (3 : Nat)).before a0 Z = true := hw _ (List.mem_of_getElem? (i := 90) rfl)
theorem wd91 {Z : State} {a0 : Array Value} (hw : ∀ d ∈ tables_1, d.before a0 Z = true) : (Jvm.Cond.methodLink "com/example/redoubt/redoubt/Transaction" (27 : Nat) ({ cls := "java/util/List", name := "of", desc := "()Ljava/util/List;" } : Jvm.MethodName)).before a0 Z = true := hw _ (List.mem_of_getElem? (i := 91) rfl)
theorem wd92 {Z : State} {a0 : Array Value} (hw : ∀ d ∈ tables_1, d.before a0 Z = true) : (Jvm.Cond.static ({ cls := "java/util/List", name := "of", desc := "()Ljava/util/List;" } : Jvm.MethodName)).before a0 Z = true := hw _ (List.mem_of_getElem? (i := 92) rfl)
theorem wd93 {Z : State} {a0 : Array Value} (hw : ∀ d ∈ tables_1, d.before a0 Z = true) : (Jvm.Cond.initialized "java/util/List").before a0 Z = true := hw _ (List.mem_of_getElem? (i := 93) rfl)
theorem wd94 {Z : State} {a0 : Array Value} (hw : ∀ d ∈ tables_1, d.before a0 Z = true) : (Jvm.Cond.code ({ cls := "java/util/List", name := "of", desc := "()Ljava/util/List;" } : Jvm.MethodName) jdk_40_method_36_code (0 : Nat) (Option.some (Jvm.ClassFile.FieldType.object "java/util/List"))).before a0 Z = true := hw _ (List.mem_of_getElem? (i := 94) rfl)
theorem wd95 {Z : State} {a0 : Array Value} (hw : ∀ d ∈ tables_1, d.before a0 Z = true) : (Jvm.Cond.fieldLink "java/util/List" (90 : Nat) "java/util/ImmutableCollections" "EMPTY_LIST" "Ljava/util/ImmutableCollections$ListN;").before a0 Z = true := hw _ (List.mem_of_getElem? (i := 95) rfl)
theorem wd96 {Z : State} {a0 : Array Value} (hw : ∀ d ∈ tables_1, d.before a0 Z = true) : (Jvm.Cond.initialized "java/util/ImmutableCollections").before a0 Z = true := hw _ (List.mem_of_getElem? (i := 96) rfl)
theorem wd97 {Z : State} {a0 : Array Value} (hw : ∀ d ∈ tables_1, d.before a0 Z = true) : (Jvm.Cond.methodLink "com/example/redoubt/redoubt/Transaction" (31 : Nat) ({ cls := "java/util/List", name := "of", desc := "([Ljava/lang/Object;)Ljava/util/List;" } : Jvm.MethodName)).before a0 Z = true := hw _ (List.mem_of_getElem? (i := 97) rfl)
theorem wd98 {Z : State} {a0 : Array Value} (hw : ∀ d ∈ tables_1, d.before a0 Z = true) : (Jvm.Cond.static ({ cls := "java/util/List", name := "of", desc := "([Ljava/lang/Object;)Ljava/util/List;" } : Jvm.MethodName)).before a0 Z = true := hw _ (List.mem_of_getElem? (i := 98) rfl)
theorem wd99 {Z : State} {a0 : Array Value} (hw : ∀ d ∈ tables_1, d.before a0 Z = true) : (Jvm.Cond.code ({ cls := "java/util/List", name := "of", desc := "([Ljava/lang/Object;)Ljava/util/List;" } : Jvm.MethodName) jdk_40_method_47_code (2 : Nat) (Option.some (Jvm.ClassFile.FieldType.object "java/util/List"))).before a0 Z = true := hw _ (List.mem_of_getElem? (i := 99) rfl)
theorem wd100 {Z : State} {a0 : Array Value} (hw : ∀ d ∈ tables_1, d.before a0 Z = true) : (Jvm.Cond.methodLink "com/example/redoubt/redoubt/Transaction" (34 : Nat) ({ cls := "com/example/redoubt/redoubt/Transaction", name := "<init>", desc := "(Ljava/util/List;Ljava/util/List;Ljava/util/List;)V" } : Jvm.MethodName)).before a0 Z = true := hw _ (List.mem_of_getElem? (i := 100) rfl)
theorem wd101 {Z : State} {a0 : Array Value} (hw : ∀ d ∈ tables_1, d.before a0 Z = true) : (Jvm.Cond.instanceMethod ({ cls := "com/example/redoubt/redoubt/Transaction", name := "<init>", desc := "(Ljava/util/List;Ljava/util/List;Ljava/util/List;)V" } : Jvm.MethodName)).before a0 Z = true := hw _ (List.mem_of_getElem? (i := 101) rfl)
theorem wd102 {Z : State} {a0 : Array Value} (hw : ∀ d ∈ tables_1, d.before a0 Z = true) : (Jvm.Cond.code ({ cls := "com/example/redoubt/redoubt/Transaction", name := "<init>", desc := "(Ljava/util/List;Ljava/util/List;Ljava/util/List;)V" } : Jvm.MethodName) prog_57_method_1_code (4 : Nat) (Option.none : Option Jvm.ClassFile.FieldType)).before a0 Z = true := hw _ (List.mem_of_getElem? (i := 102) rfl)
theorem wd103 {Z : State} {a0 : Array Value} (hw : ∀ d ∈ tables_1, d.before a0 Z = true) : (Jvm.Cond.methodLink "com/example/redoubt/redoubt/Transaction" (5 : Nat) ({ cls := "java/lang/Record", name := "<init>", desc := "()V" } : Jvm.MethodName)).before a0 Z = true := hw _ (List.mem_of_getElem? (i := 103) rfl)
theorem wd104 {Z : State} {a0 : Array Value} (hw : ∀ d ∈ tables_1, d.before a0 Z = true) : (Jvm.Cond.methodLink "com/example/redoubt/redoubt/Transaction" (11 : Nat) ({ cls := "java/util/List", name := "copyOf", desc := "(Ljava/util/Collection;)Ljava/util/List;" } : Jvm.MethodName)).before a0 Z = true := hw _ (List.mem_of_getElem? (i := 104) rfl)
theorem wd105 {Z : State} {a0 : Array Value} (hw : ∀ d ∈ tables_1, d.before a0 Z = true) : (Jvm.Cond.static ({ cls := "java/util/List", name := "copyOf", desc := "(Ljava/util/Collection;)Ljava/util/List;" } : Jvm.MethodName)).before a0 Z = true := hw _ (List.mem_of_getElem? (i := 105) rfl)
theorem wd106 {Z : State} {a0 : Array Value} (hw : ∀ d ∈ tables_1, d.before a0 Z = true) : (Jvm.Cond.code ({ cls := "java/util/List", name := "copyOf", desc := "(Ljava/util/Collection;)Ljava/util/List;" } : Jvm.MethodName) jdk_40_method_48_code (1 : Nat) (Option.some (Jvm.ClassFile.FieldType.object "java/util/List"))).before a0 Z = true := hw _ (List.mem_of_getElem? (i := 106) rfl)
theorem wd107 {Z : State} {a0 : Array Value} (hw : ∀ d ∈ tables_1, d.before a0 Z = true) : (Jvm.Cond.methodLink "java/util/List" (112 : Nat) ({ cls := "java/util/ImmutableCollections", name := "listCopy", desc := "(Ljava/util/Collection;)Ljava/util/List;" } : Jvm.MethodName)).before a0 Z = true := hw _ (List.mem_of_getElem? (i := 107) rfl)
theorem wd108 {Z : State} {a0 : Array Value} (hw : ∀ d ∈ tables_1, d.before a0 Z = true) : (Jvm.Cond.static ({ cls := "java/util/ImmutableCollections", name := "listCopy", desc := "(Ljava/util/Collection;)Ljava/util/List;" } : Jvm.MethodName)).before a0 Z = true := hw _ (List.mem_of_getElem? (i := 108) rfl)
theorem wd109 {Z : State} {a0 : Array Value} (hw : ∀ d ∈ tables_1, d.before a0 Z = true) : (Jvm.Cond.code ({ cls := "java/util/ImmutableCollections", name := "listCopy", desc := "(Ljava/util/Collection;)Ljava/util/List;" } : Jvm.MethodName) jdk_56_method_3_code (2 : Nat) (Option.some (Jvm.ClassFile.FieldType.object "java/util/List"))).before a0 Z = true := hw _ (List.mem_of_getElem? (i := 109) rfl)
theorem wd110 {Z : State} {a0 : Array Value} (hw : ∀ d ∈ tables_1, d.before a0 Z = true) : (Jvm.Cond.classLink "java/util/ImmutableCollections" (10 : Nat) "java/util/ImmutableCollections$List12").before a0 Z = true := hw _ (List.mem_of_getElem? (i := 110) rfl)
theorem wd116 {Z : State} {a0 : Array Value} (hw : ∀ d ∈ tables_1, d.before a0 Z = true) : (Jvm.Cond.classLink "java/util/ImmutableCollections" (12 : Nat) "java/util/ImmutableCollections$ListN").before a0 Z = true := hw _ (List.mem_of_getElem? (i := 116) rfl)
theorem wd118 {Z : State} {a0 : Array Value} (hw : ∀ d ∈ tables_1, d.before a0 Z = true) : (Jvm.Cond.fieldLinkNest "java/util/ImmutableCollections" (14 : Nat) "java/util/ImmutableCollections$ListN" "allowNulls" "Z" "java/util/ImmutableCollections").before a0 Z = true := hw _ (List.mem_of_getElem? (i := 118) rfl)
theorem wd120 {Z : State} {a0 : Array Value} (hw : ∀ d ∈ tables_1, d.before a0 Z = true) : (Jvm.Cond.classLink "java/util/ImmutableCollections" (18 : Nat) "java/util/List").before a0 Z = true := hw _ (List.mem_of_getElem? (i := 120) rfl)
theorem wd121 {Z : State} {a0 : Array Value} (hw : ∀ d ∈ tables_1, d.before a0 Z = true) : (Jvm.Cond.castable "java/util/ImmutableCollections$ListN" "java/util/List").before a0 Z = true := hw _ (List.mem_of_getElem? (i := 121) rfl)
theorem wd122 {Z : State} {a0 : Array Value} (hw : ∀ d ∈ tables_1, d.before a0 Z = true) : (Jvm.Cond.fieldLink "com/example/redoubt/redoubt/Transaction" (17 : Nat) "com/example/redoubt/redoubt/Transaction" "compares" "Ljava/util/List;").before a0 Z = true := hw _ (List.mem_of_getElem? (i := 122) rfl)
theorem wd123 {Z : State} {a0 : Array Value} (hw : ∀ d ∈ tables_1, d.before a0 Z = true) : (Jvm.Cond.laysFinal "com/example/redoubt/redoubt/Transaction" "com/example/redoubt/redoubt/Transaction" "compares" "Ljava/util/List;").before a0 Z = true := hw _ (List.mem_of_getElem? (i := 123) rfl)
theorem wd124 {Z : State} {a0 : Array Value} (hw : ∀ d ∈ tables_1, d.before a0 Z = true) : (Jvm.Cond.fieldLink "com/example/redoubt/redoubt/Transaction" (21 : Nat) "com/example/redoubt/redoubt/Transaction" "success" "Ljava/util/List;").before a0 Z = true := hw _ (List.mem_of_getElem? (i := 124) rfl)
theorem wd125 {Z : State} {a0 : Array Value} (hw : ∀ d ∈ tables_1, d.before a0 Z = true) : (Jvm.Cond.laysFinal "com/example/redoubt/redoubt/Transaction" "com/example/redoubt/redoubt/Transaction" "success" "Ljava/util/List;").before a0 Z = true := hw _ (List.mem_of_getElem? (i := 125) rfl)
theorem wd126 {Z : State} {a0 : Array Value} (hw : ∀ d ∈ tables_1, d.before a0 Z = true) : (Jvm.Cond.fieldLink "com/example/redoubt/redoubt/Transaction" (24 : Nat) "com/example/redoubt/redoubt/Transaction" "failure" "Ljava/util/List;").before a0 Z = true := hw _ (List.mem_of_getElem? (i := 126) rfl)
theorem wd127 {Z : State} {a0 : Array Value} (hw : ∀ d ∈ tables_1, d.before a0 Z = true) : (Jvm.Cond.laysFinal "com/example/redoubt/redoubt/Transaction" "com/example/redoubt/redoubt/Transaction" "failure" "Ljava/util/List;").before a0 Z = true := hw _ (List.mem_of_getElem? (i := 127) rfl)
theorem wd128 {Z : State} {a0 : Array Value} (hw : ∀ d ∈ tables_1, d.before a0 Z = true) : (Jvm.Cond.methodLink "com/example/redoubt/redoubt/CommandNoopPinLaw" (49 : Nat) ({ cls := "com/example/redoubt/redoubt/Transaction", name := "compares", desc := "()Ljava/util/List;" } : Jvm.MethodName)).before a0 Z = true := hw _ (List.mem_of_getElem? (i := 128) rfl)
theorem wd129 {Z : State} {a0 : Array Value} (hw : ∀ d ∈ tables_1, d.before a0 Z = true) : (Jvm.Cond.declares ({ cls := "com/example/redoubt/redoubt/Transaction", name := "compares", desc := "()Ljava/util/List;" } : Jvm.MethodName)).before a0 Z = true := hw _ (List.mem_of_getElem? (i := 129) rfl)
theorem wd130 {Z : State} {a0 : Array Value} (hw : ∀ d ∈ tables_1, d.before a0 Z = true) : (Jvm.Cond.instanceMethod ({ cls := "com/example/redoubt/redoubt/Transaction", name := "compares", desc := "()Ljava/util/List;" } : Jvm.MethodName)).before a0 Z = true := hw _ (List.mem_of_getElem? (i := 130) rfl)
theorem wd131 {Z : State} {a0 : Array Value} (hw : ∀ d ∈ tables_1, d.before a0 Z = true) : (Jvm.Cond.selects "com/example/redoubt/redoubt/Transaction" ({ cls := "com/example/redoubt/redoubt/Transaction", name := "compares", desc := "()Ljava/util/List;" } : Jvm.MethodName) ({ cls := "com/example/redoubt/redoubt/Transaction", name := "compares", desc := "()Ljava/util/List;" } : Jvm.MethodName)).before a0 Z = true := hw _ (List.mem_of_getElem? (i := 131) rfl)
theorem wd132 {Z : State} {a0 : Array Value} (hw : ∀ d ∈ tables_1, d.before a0 Z = true) : (Jvm.Cond.code ({ cls := "com/example/redoubt/redoubt/Transaction", name := "compares", desc := "()Ljava/util/List;" } : Jvm.MethodName) prog_57_method_17_code (1 : Nat) (Option.some (Jvm.ClassFile.FieldType.object "java/util/List"))).before a0 Z = true := hw _ (List.mem_of_getElem? (i := 132) rfl)
theorem wd133 {Z : State} {a0 : Array Value} (hw : ∀ d ∈ tables_1, d.before a0 Z = true) : (Jvm.Cond.methodLink "com/example/redoubt/redoubt/CommandNoopPinLaw" (55 : Nat) ({ cls := "java/util/List", name := "size", desc := "()I" } : Jvm.MethodName)).before a0 Z = true := hw _ (List.mem_of_getElem? (i := 133) rfl)
theorem wd134 {Z : State} {a0 : Array Value} (hw : ∀ d ∈ tables_1, d.before a0 Z = true) : (Jvm.Cond.declares ({ cls := "java/util/List", name := "size", desc := "()I" } : Jvm.MethodName)).before a0 Z = true := hw _ (List.mem_of_getElem? (i := 134) rfl)
theorem wd135 {Z : State} {a0 : Array Value} (hw : ∀ d ∈ tables_1, d.before a0 Z = true) : (Jvm.Cond.interfaceMethod "java/util/List" "java/util/List" "size" "()I").before a0 Z = true := hw _ (List.mem_of_getElem? (i := 135) rfl)
theorem wd136 {Z : State} {a0 : Array Value} (hw : ∀ d ∈ tables_1, d.before a0 Z = true) : (Jvm.Cond.selects "java/util/ImmutableCollections$ListN" ({ cls := "java/util/List", name := "size", desc := "()I" } : Jvm.MethodName) ({ cls := "java/util/ImmutableCollections$ListN", name := "size", desc := "()I" } : Jvm.MethodName)).before a0 Z = true := hw _ (List.mem_of_getElem? (i := 136) rfl)
theorem wd137 {Z : State} {a0 : Array Value} (hw : ∀ d ∈ tables_1, d.before a0 Z = true) : (Jvm.Cond.instanceMethod ({ cls := "java/util/ImmutableCollections$ListN", name := "size", desc := "()I" } : Jvm.MethodName)).before a0 Z = true := hw _ (List.mem_of_getElem? (i := 137) rfl)
theorem wd138 {Z : State} {a0 : Array Value} (hw : ∀ d ∈ tables_1, d.before a0 Z = true) : (Jvm.Cond.publicMethod ({ cls := "java/util/ImmutableCollections$ListN", name := "size", desc := "()I" } : Jvm.MethodName)).before a0 Z = true := hw _ (List.mem_of_getElem? (i := 138) rfl)
theorem wd139 {Z : State} {a0 : Array Value} (hw : ∀ d ∈ tables_1, d.before a0 Z = true) : (Jvm.Cond.unhidden "java/util/ImmutableCollections$ListN" "size" "()I").before a0 Z = true := hw _ (List.mem_of_getElem? (i := 139) rfl)
theorem wd140 {Z : State} {a0 : Array Value} (hw : ∀ d ∈ tables_1, d.before a0 Z = true) : (Jvm.Cond.initialized "java/util/ImmutableCollections$ListN").before a0 Z = true := hw _ (List.mem_of_getElem? (i := 140) rfl)
theorem wd141 {Z : State} {a0 : Array Value} (hw : ∀ d ∈ tables_1, d.before a0 Z = true) : (Jvm.Cond.code ({ cls := "java/util/ImmutableCollections$ListN", name := "size", desc := "()I" } : Jvm.MethodName) jdk_45_method_3_code (1 : Nat) (Option.some Jvm.ClassFile.FieldType.int)).before a0 Z = true := hw _ (List.mem_of_getElem? (i := 141) rfl)
theorem wd142 {Z : State} {a0 : Array Value} (hw : ∀ d ∈ tables_1, d.before a0 Z = true) : (Jvm.Cond.fieldLink "java/util/ImmutableCollections$ListN" (7 : Nat) "java/util/ImmutableCollections$ListN" "elements" "[Ljava/lang/Object;").before a0 Z = true := hw _ (List.mem_of_getElem? (i := 142) rfl)
theorem wd144 {Z : State} {a0 : Array Value} (hw : ∀ d ∈ tables_1, d.before a0 Z = true) : (Jvm.Cond.methodLink "com/example/redoubt/redoubt/CommandNoopPinLaw" (60 : Nat) ({ cls := "com/example/redoubt/redoubt/Transaction", name := "success", desc := "()Ljava/util/List;" } : Jvm.MethodName)).before a0 Z = true := hw _ (List.mem_of_getElem? (i := 144) rfl)
theorem wd145 {Z : State} {a0 : Array Value} (hw : ∀ d ∈ tables_1, d.before a0 Z = true) : (Jvm.Cond.declares ({ cls := "com/example/redoubt/redoubt/Transaction", name := "success", desc := "()Ljava/util/List;" } : Jvm.MethodName)).before a0 Z = true := hw _ (List.mem_of_getElem? (i := 145) rfl)
theorem wd146 {Z : State} {a0 : Array Value} (hw : ∀ d ∈ tables_1, d.before a0 Z = true) : (Jvm.Cond.instanceMethod ({ cls := "com/example/redoubt/redoubt/Transaction", name := "success", desc := "()Ljava/util/List;" } : Jvm.MethodName)).before a0 Z = true := hw _ (List.mem_of_getElem? (i := 146) rfl)
theorem wd147 {Z : State} {a0 : Array Value} (hw : ∀ d ∈ tables_1, d.before a0 Z = true) : (Jvm.Cond.selects "com/example/redoubt/redoubt/Transaction" ({ cls := "com/example/redoubt/redoubt/Transaction", name := "success", desc := "()Ljava/util/List;" } : Jvm.MethodName) ({ cls := "com/example/redoubt/redoubt/Transaction", name := "success", desc := "()Ljava/util/List;" } : Jvm.MethodName)).before a0 Z = true := hw _ (List.mem_of_getElem? (i := 147) rfl)
theorem wd148 {Z : State} {a0 : Array Value} (hw : ∀ d ∈ tables_1, d.before a0 Z = true) : (Jvm.Cond.code ({ cls := "com/example/redoubt/redoubt/Transaction", name := "success", desc := "()Ljava/util/List;" } : Jvm.MethodName) prog_57_method_18_code (1 : Nat) (Option.some (Jvm.ClassFile.FieldType.object "java/util/List"))).before a0 Z = true := hw _ (List.mem_of_getElem? (i := 148) rfl)
theorem wd149 {Z : State} {a0 : Array Value} (hw : ∀ d ∈ tables_1, d.before a0 Z = true) : (Jvm.Cond.methodLink "com/example/redoubt/redoubt/CommandNoopPinLaw" (63 : Nat) ({ cls := "com/example/redoubt/redoubt/Transaction", name := "failure", desc := "()Ljava/util/List;" } : Jvm.MethodName)).before a0 Z = true := hw _ (List.mem_of_getElem? (i := 149) rfl)
theorem wd150 {Z : State} {a0 : Array Value} (hw : ∀ d ∈ tables_1, d.before a0 Z = true) : (Jvm.Cond.declares ({ cls := "com/example/redoubt/redoubt/Transaction", name := "failure", desc := "()Ljava/util/List;" } : Jvm.MethodName)).before a0 Z = true := hw _ (List.mem_of_getElem? (i := 150) rfl)
theorem wd151 {Z : State} {a0 : Array Value} (hw : ∀ d ∈ tables_1, d.before a0 Z = true) : (Jvm.Cond.instanceMethod ({ cls := "com/example/redoubt/redoubt/Transaction", name := "failure", desc := "()Ljava/util/List;" } : Jvm.MethodName)).before a0 Z = true := hw _ (List.mem_of_getElem? (i := 151) rfl)
theorem wd152 {Z : State} {a0 : Array Value} (hw : ∀ d ∈ tables_1, d.before a0 Z = true) : (Jvm.Cond.selects "com/example/redoubt/redoubt/Transaction" ({ cls := "com/example/redoubt/redoubt/Transaction", name := "failure", desc := "()Ljava/util/List;" } : Jvm.MethodName) ({ cls := "com/example/redoubt/redoubt/Transaction", name := "failure", desc := "()Ljava/util/List;" } : Jvm.MethodName)).before a0 Z = true := hw _ (List.mem_of_getElem? (i := 152) rfl)
theorem wd153 {Z : State} {a0 : Array Value} (hw : ∀ d ∈ tables_1, d.before a0 Z = true) : (Jvm.Cond.code ({ cls := "com/example/redoubt/redoubt/Transaction", name := "failure", desc := "()Ljava/util/List;" } : Jvm.MethodName) prog_57_method_19_code (1 : Nat) (Option.some (Jvm.ClassFile.FieldType.object "java/util/List"))).before a0 Z = true := hw _ (List.mem_of_getElem? (i := 153) rfl)
theorem d1_0 : decode prog_9_method_5_code 0 = .ok (.new 8, 3) := by decide +kernel
theorem d1_3 : decode prog_9_method_5_code 3 = .ok (.dup, 1) := by decide +kernel
theorem d1_4 : decode prog_9_method_5_code 4 = .ok (.getstatic 54, 3) := by decide +kernel
theorem d1_7 : decode prog_9_method_5_code 7 = .ok (.ldc 57, 2) := by decide +kernel
theorem d1_9 : decode prog_9_method_5_code 9 = .ok (.getstatic 51, 3) := by decide +kernel
theorem d1_12 : decode prog_9_method_5_code 12 = .ok (.invokespecial 26, 3) := by decide +kernel
theorem d1_15 : decode prog_9_method_5_code 15 = .ok (.areturn, 1) := by decide +kernel
theorem d2_0 : decode prog_9_method_1_code 0 = .ok (.aload_n 0, 1) := by decide +kernel
theorem d2_1 : decode prog_9_method_1_code 1 = .ok (.invokespecial 1, 3) := by decide +kernel
theorem d2_4 : decode prog_9_method_1_code 4 = .ok (.aload_n 0, 1) := by decide +kernel
theorem d2_5 : decode prog_9_method_1_code 5 = .ok (.aload_n 1, 1) := by decide +kernel
theorem d2_6 : decode prog_9_method_1_code 6 = .ok (.putfield 7, 3) := by decide +kernel
theorem d2_9 : decode prog_9_method_1_code 9 = .ok (.aload_n 0, 1) := by decide +kernel
theorem d2_10 : decode prog_9_method_1_code 10 = .ok (.aload_n 2, 1) := by decide +kernel
theorem d2_11 : decode prog_9_method_1_code 11 = .ok (.putfield 13, 3) := by decide +kernel
theorem d2_14 : decode prog_9_method_1_code 14 = .ok (.aload_n 0, 1) := by decide +kernel
theorem d2_15 : decode prog_9_method_1_code 15 = .ok (.aload_n 3, 1) := by decide +kernel
theorem d2_16 : decode prog_9_method_1_code 16 = .ok (.putfield 17, 3) := by decide +kernel
theorem d2_19 : decode prog_9_method_1_code 19 = .ok (.return_, 1) := by decide +kernel
theorem d3_0 : decode jdk_30_method_1_code 0 = .ok (.aload_n 0, 1) := by decide +kernel
theorem d3_1 : decode jdk_30_method_1_code 1 = .ok (.invokespecial 1, 3) := by decide +kernel
theorem d3_4 : decode jdk_30_method_1_code 4 = .ok (.return_, 1) := by decide +kernel
theorem d5_0 : decode prog_9_method_17_code 0 = .ok (.aload_n 0, 1) := by decide +kernel
theorem d5_1 : decode prog_9_method_17_code 1 = .ok (.getfield 7, 3) := by decide +kernel
theorem d5_4 : decode prog_9_method_17_code 4 = .ok (.areturn, 1) := by decide +kernel
theorem d6_0 : decode prog_9_method_18_code 0 = .ok (.aload_n 0, 1) := by decide +kernel
theorem d6_1 : decode prog_9_method_18_code 1 = .ok (.getfield 13, 3) := by decide +kernel
theorem d6_4 : decode prog_9_method_18_code 4 = .ok (.areturn, 1) := by decide +kernel
theorem d7_0 : decode prog_9_method_19_code 0 = .ok (.aload_n 0, 1) := by decide +kernel
theorem d7_1 : decode prog_9_method_19_code 1 = .ok (.getfield 17, 3) := by decide +kernel
theorem d7_4 : decode prog_9_method_19_code 4 = .ok (.areturn, 1) := by decide +kernel
theorem d8_0 : decode prog_10_method_4_code 0 = .ok (.aload_n 0, 1) := by decide +kernel
theorem d8_1 : decode prog_10_method_4_code 1 = .ok (.getfield 41, 3) := by decide +kernel
theorem d8_4 : decode prog_10_method_4_code 4 = .ok (.ireturn, 1) := by decide +kernel
theorem d9_0 : decode jdk_42_method_55_code 0 = .ok (.aload_n 0, 1) := by decide +kernel
theorem d9_1 : decode jdk_42_method_55_code 1 = .ok (.getfield 9, 3) := by decide +kernel
theorem d9_4 : decode jdk_42_method_55_code 4 = .ok (.arraylength, 1) := by decide +kernel
theorem d9_5 : decode jdk_42_method_55_code 5 = .ok (.ifCond .ne 7, 3) := by decide +kernel
theorem d9_8 : decode jdk_42_method_55_code 8 = .ok (.iconst 1, 1) := by decide +kernel
theorem d9_9 : decode jdk_42_method_55_code 9 = .ok (.goto 4, 3) := by decide +kernel
theorem d9_13 : decode jdk_42_method_55_code 13 = .ok (.ireturn, 1) := by decide +kernel
theorem d10_0 : decode prog_9_method_12_code 0 = .ok (.aload_n 0, 1) := by decide +kernel
theorem d10_1 : decode prog_9_method_12_code 1 = .ok (.invokevirtual 100, 3) := by decide +kernel
theorem d10_4 : decode prog_9_method_12_code 4 = .ok (.tableswitch 40 0 5 #[50, 72, 92, 112, 134, 179], 40) := by decide +kernel
theorem d10_96 : decode prog_9_method_12_code 96 = .ok (.aload_n 1, 1) := by decide +kernel
theorem d10_97 : decode prog_9_method_12_code 97 = .ok (.invokevirtual 139, 3) := by decide +kernel
theorem d10_100 : decode prog_9_method_12_code 100 = .ok (.ifCond .eq 12, 3) := by decide +kernel
theorem d10_103 : decode prog_9_method_12_code 103 = .ok (.aload_n 2, 1) := by decide +kernel
theorem d10_104 : decode prog_9_method_12_code 104 = .ok (.arraylength, 1) := by decide +kernel
theorem d10_105 : decode prog_9_method_12_code 105 = .ok (.ifCond .ne 7, 3) := by decide +kernel
theorem d10_108 : decode prog_9_method_12_code 108 = .ok (.iconst 1, 1) := by decide +kernel
theorem d10_109 : decode prog_9_method_12_code 109 = .ok (.goto 105, 3) := by decide +kernel
theorem d10_214 : decode prog_9_method_12_code 214 = .ok (.istore_n 3, 1) := by decide +kernel
theorem d10_215 : decode prog_9_method_12_code 215 = .ok (.iload_n 3, 1) := by decide +kernel
theorem d10_216 : decode prog_9_method_12_code 216 = .ok (.ireturn, 1) := by decide +kernel
theorem d11_0 : decode jdk_37_method_2_code 0 = .ok (.aload_n 0, 1) := by decide +kernel
theorem d11_1 : decode jdk_37_method_2_code 1 = .ok (.getfield 7, 3) := by decide +kernel
theorem d11_4 : decode jdk_37_method_2_code 4 = .ok (.ireturn, 1) := by decide +kernel
theorem d12_0 : decode prog_9_method_11_code 0 = .ok (.aload_n 0, 1) := by decide +kernel
theorem d12_1 : decode prog_9_method_11_code 1 = .ok (.getfield 7, 3) := by decide +kernel
theorem d12_4 : decode prog_9_method_11_code 4 = .ok (.invokevirtual 100, 3) := by decide +kernel
theorem d12_7 : decode prog_9_method_11_code 7 = .ok (.tableswitch 37 0 5 #[47, 71, 91, 101, 111, 111], 37) := by decide +kernel
theorem d12_98 : decode prog_9_method_11_code 98 = .ok (.iconst 0, 1) := by decide +kernel
theorem d12_99 : decode prog_9_method_11_code 99 = .ok (.anewarray 33, 3) := by decide +kernel
theorem d12_102 : decode prog_9_method_11_code 102 = .ok (.invokestatic 38, 3) := by decide +kernel
theorem d12_105 : decode prog_9_method_11_code 105 = .ok (.goto 14, 3) := by decide +kernel
theorem d12_119 : decode prog_9_method_11_code 119 = .ok (.astore_n 1, 1) := by decide +kernel
theorem d12_120 : decode prog_9_method_11_code 120 = .ok (.aload_n 1, 1) := by decide +kernel
theorem d12_121 : decode prog_9_method_11_code 121 = .ok (.ifnonnull 23, 3) := by decide +kernel
theorem d12_144 : decode prog_9_method_11_code 144 = .ok (.aload_n 1, 1) := by decide +kernel
theorem d12_145 : decode prog_9_method_11_code 145 = .ok (.areturn, 1) := by decide +kernel
theorem d13_0 : decode prog_57_method_2_code 0 = .ok (.new 3, 3) := by decide +kernel
theorem d13_3 : decode prog_57_method_2_code 3 = .ok (.dup, 1) := by decide +kernel
theorem d13_4 : decode prog_57_method_2_code 4 = .ok (.invokestatic 27, 3) := by decide +kernel
theorem d13_7 : decode prog_57_method_2_code 7 = .ok (.aload_n 0, 1) := by decide +kernel
theorem d13_8 : decode prog_57_method_2_code 8 = .ok (.invokestatic 31, 3) := by decide +kernel
theorem d13_11 : decode prog_57_method_2_code 11 = .ok (.invokestatic 27, 3) := by decide +kernel
theorem d13_14 : decode prog_57_method_2_code 14 = .ok (.invokespecial 34, 3) := by decide +kernel
theorem d13_17 : decode prog_57_method_2_code 17 = .ok (.areturn, 1) := by decide +kernel
theorem d14_0 : decode jdk_40_method_36_code 0 = .ok (.getstatic 90, 3) := by decide +kernel
theorem d14_3 : decode jdk_40_method_36_code 3 = .ok (.areturn, 1) := by decide +kernel
theorem d15_0 : decode jdk_40_method_47_code 0 = .ok (.aload_n 0, 1) := by decide +kernel
theorem d15_1 : decode jdk_40_method_47_code 1 = .ok (.arraylength, 1) := by decide +kernel
theorem d15_2 : decode jdk_40_method_47_code 2 = .ok (.tableswitch 57 0 2 #[26, 32, 43], 26) := by decide +kernel
theorem d15_28 : decode jdk_40_method_47_code 28 = .ok (.getstatic 90, 3) := by decide +kernel
theorem d15_31 : decode jdk_40_method_47_code 31 = .ok (.astore_n 1, 1) := by decide +kernel
theorem d15_32 : decode jdk_40_method_47_code 32 = .ok (.aload_n 1, 1) := by decide +kernel
theorem d15_33 : decode jdk_40_method_47_code 33 = .ok (.areturn, 1) := by decide +kernel
theorem d16_0 : decode prog_57_method_1_code 0 = .ok (.aload_n 0, 1) := by decide +kernel
theorem d16_1 : decode prog_57_method_1_code 1 = .ok (.invokespecial 5, 3) := by decide +kernel
theorem d16_4 : decode prog_57_method_1_code 4 = .ok (.aload_n 1, 1) := by decide +kernel
theorem d16_5 : decode prog_57_method_1_code 5 = .ok (.invokestatic 11, 3) := by decide +kernel
theorem d16_8 : decode prog_57_method_1_code 8 = .ok (.astore_n 1, 1) := by decide +kernel
theorem d16_9 : decode prog_57_method_1_code 9 = .ok (.aload_n 2, 1) := by decide +kernel
theorem d16_10 : decode prog_57_method_1_code 10 = .ok (.invokestatic 11, 3) := by decide +kernel
theorem d16_13 : decode prog_57_method_1_code 13 = .ok (.astore_n 2, 1) := by decide +kernel
theorem d16_14 : decode prog_57_method_1_code 14 = .ok (.aload_n 3, 1) := by decide +kernel
theorem d16_15 : decode prog_57_method_1_code 15 = .ok (.invokestatic 11, 3) := by decide +kernel
theorem d16_18 : decode prog_57_method_1_code 18 = .ok (.astore_n 3, 1) := by decide +kernel
theorem d16_19 : decode prog_57_method_1_code 19 = .ok (.aload_n 0, 1) := by decide +kernel
theorem d16_20 : decode prog_57_method_1_code 20 = .ok (.aload_n 1, 1) := by decide +kernel
theorem d16_21 : decode prog_57_method_1_code 21 = .ok (.putfield 17, 3) := by decide +kernel
theorem d16_24 : decode prog_57_method_1_code 24 = .ok (.aload_n 0, 1) := by decide +kernel
theorem d16_25 : decode prog_57_method_1_code 25 = .ok (.aload_n 2, 1) := by decide +kernel
theorem d16_26 : decode prog_57_method_1_code 26 = .ok (.putfield 21, 3) := by decide +kernel
theorem d16_29 : decode prog_57_method_1_code 29 = .ok (.aload_n 0, 1) := by decide +kernel
theorem d16_30 : decode prog_57_method_1_code 30 = .ok (.aload_n 3, 1) := by decide +kernel
theorem d16_31 : decode prog_57_method_1_code 31 = .ok (.putfield 24, 3) := by decide +kernel
theorem d16_34 : decode prog_57_method_1_code 34 = .ok (.return_, 1) := by decide +kernel
theorem d17_0 : decode jdk_40_method_48_code 0 = .ok (.aload_n 0, 1) := by decide +kernel
theorem d17_1 : decode jdk_40_method_48_code 1 = .ok (.invokestatic 112, 3) := by decide +kernel
theorem d17_4 : decode jdk_40_method_48_code 4 = .ok (.areturn, 1) := by decide +kernel
theorem d18_0 : decode jdk_56_method_3_code 0 = .ok (.aload_n 0, 1) := by decide +kernel
theorem d18_1 : decode jdk_56_method_3_code 1 = .ok (.instanceof 10, 3) := by decide +kernel
theorem d18_4 : decode jdk_56_method_3_code 4 = .ok (.ifCond .ne 22, 3) := by decide +kernel
theorem d18_7 : decode jdk_56_method_3_code 7 = .ok (.aload_n 0, 1) := by decide +kernel
theorem d18_8 : decode jdk_56_method_3_code 8 = .ok (.instanceof 12, 3) := by decide +kernel
theorem d18_11 : decode jdk_56_method_3_code 11 = .ok (.ifCond .eq 20, 3) := by decide +kernel
theorem d18_14 : decode jdk_56_method_3_code 14 = .ok (.aload_n 0, 1) := by decide +kernel
theorem d18_15 : decode jdk_56_method_3_code 15 = .ok (.checkcast 12, 3) := by decide +kernel
theorem d18_18 : decode jdk_56_method_3_code 18 = .ok (.astore_n 1, 1) := by decide +kernel
theorem d18_19 : decode jdk_56_method_3_code 19 = .ok (.aload_n 1, 1) := by decide +kernel
theorem d18_20 : decode jdk_56_method_3_code 20 = .ok (.getfield 14, 3) := by decide +kernel
theorem d18_23 : decode jdk_56_method_3_code 23 = .ok (.ifCond .ne 8, 3) := by decide +kernel
theorem d18_26 : decode jdk_56_method_3_code 26 = .ok (.aload_n 0, 1) := by decide +kernel
theorem d18_27 : decode jdk_56_method_3_code 27 = .ok (.checkcast 18, 3) := by decide +kernel
theorem d18_30 : decode jdk_56_method_3_code 30 = .ok (.areturn, 1) := by decide +kernel
theorem d19_0 : decode prog_57_method_17_code 0 = .ok (.aload_n 0, 1) := by decide +kernel
theorem d19_1 : decode prog_57_method_17_code 1 = .ok (.getfield 17, 3) := by decide +kernel
theorem d19_4 : decode prog_57_method_17_code 4 = .ok (.areturn, 1) := by decide +kernel
theorem d20_0 : decode jdk_45_method_3_code 0 = .ok (.aload_n 0, 1) := by decide +kernel
theorem d20_1 : decode jdk_45_method_3_code 1 = .ok (.getfield 7, 3) := by decide +kernel
theorem d20_4 : decode jdk_45_method_3_code 4 = .ok (.arraylength, 1) := by decide +kernel
theorem d20_5 : decode jdk_45_method_3_code 5 = .ok (.ireturn, 1) := by decide +kernel
theorem d21_0 : decode prog_57_method_18_code 0 = .ok (.aload_n 0, 1) := by decide +kernel
theorem d21_1 : decode prog_57_method_18_code 1 = .ok (.getfield 21, 3) := by decide +kernel
theorem d21_4 : decode prog_57_method_18_code 4 = .ok (.areturn, 1) := by decide +kernel
theorem d22_0 : decode prog_57_method_19_code 0 = .ok (.aload_n 0, 1) := by decide +kernel
theorem d22_1 : decode prog_57_method_19_code 1 = .ok (.getfield 24, 3) := by decide +kernel
theorem d22_4 : decode prog_57_method_19_code 4 = .ok (.areturn, 1) := by decide +kernel
theorem pd0 : parseMethodDescriptor "()V" = some ⟨[], none⟩ := by decide +kernel
theorem pd1 : parseMethodDescriptor "(Lcom/example/redoubt/redoubt/Command$Op;Ljava/lang/String;[B)V" = some ⟨[(.object "com/example/redoubt/redoubt/Command$Op"), (.object "java/lang/String"), (.array .byte)], none⟩ := by decide +kernel
theorem pd2 : parseMethodDescriptor "()I" = some ⟨[], some .int⟩ := by decide +kernel
theorem pd3 : parseMethodDescriptor "()Z" = some ⟨[], some .boolean⟩ := by decide +kernel
theorem pd4 : parseMethodDescriptor "(Ljava/util/Collection;)Ljava/util/List;" = some ⟨[(.object "java/util/Collection")], some (.object "java/util/List")⟩ := by decide +kernel
theorem pd5 : parseMethodDescriptor "()Ljava/util/List;" = some ⟨[], some (.object "java/util/List")⟩ := by decide +kernel
theorem pd6 : parseMethodDescriptor "([Ljava/lang/Object;)Ljava/util/List;" = some ⟨[(.array (.object "java/lang/Object"))], some (.object "java/util/List")⟩ := by decide +kernel
theorem pd7 : parseMethodDescriptor "(Ljava/util/List;Ljava/util/List;Ljava/util/List;)V" = some ⟨[(.object "java/util/List"), (.object "java/util/List"), (.object "java/util/List")], none⟩ := by decide +kernel
theorem pd8 : parseMethodDescriptor "([Lcom/example/redoubt/redoubt/Transaction$Operation;)Lcom/example/redoubt/redoubt/Transaction;" = some ⟨[(.array (.object "com/example/redoubt/redoubt/Transaction$Operation"))], some (.object "com/example/redoubt/redoubt/Transaction")⟩ := by decide +kernel
theorem pd9 : parseMethodDescriptor "()Lcom/example/redoubt/redoubt/Command;" = some ⟨[], some (.object "com/example/redoubt/redoubt/Command")⟩ := by decide +kernel
theorem pd10 : parseMethodDescriptor "()Lcom/example/redoubt/redoubt/Command$Op;" = some ⟨[], some (.object "com/example/redoubt/redoubt/Command$Op")⟩ := by decide +kernel
theorem pd11 : parseMethodDescriptor "()Ljava/lang/String;" = some ⟨[], some (.object "java/lang/String")⟩ := by decide +kernel
theorem pd12 : parseMethodDescriptor "()[B" = some ⟨[], some (.array .byte)⟩ := by decide +kernel
theorem pd13 : parseMethodDescriptor "(Lcom/example/redoubt/redoubt/Command$Op;Ljava/lang/String;[B)Z" = some ⟨[(.object "com/example/redoubt/redoubt/Command$Op"), (.object "java/lang/String"), (.array .byte)], some .boolean⟩ := by decide +kernel
theorem pd14 : parseMethodDescriptor "()Lcom/example/redoubt/redoubt/Transaction;" = some ⟨[], some (.object "com/example/redoubt/redoubt/Transaction")⟩ := by decide +kernel
theorem pn0 : plainName x.cls = true := by first | (simp [x, plainName, overriddenIn]; done) | decide +kernel
theorem pn1 : plainName "java/lang/Record" = true := by first | (simp [plainName, overriddenIn]; done) | decide +kernel
theorem pn2 : plainName "com/example/redoubt/redoubt/Command" = true := by first | (simp [plainName, overriddenIn]; done) | decide +kernel
theorem pn3 : plainName "com/example/redoubt/redoubt/Command$Op" = true := by first | (simp [plainName, overriddenIn]; done) | decide +kernel
theorem pn4 : plainName "java/lang/String" = true := by first | (simp [plainName, overriddenIn]; done) | decide +kernel
theorem pn5 : plainName "java/lang/Enum" = true := by first | (simp [plainName, overriddenIn]; done) | decide +kernel
theorem pn6 : plainName "java/util/List" = true := by first | (simp [plainName, overriddenIn]; done) | decide +kernel
theorem pn7 : plainName "java/util/ImmutableCollections" = true := by first | (simp [plainName, overriddenIn]; done) | decide +kernel
theorem pn8 : plainName "com/example/redoubt/redoubt/Transaction" = true := by first | (simp [plainName, overriddenIn]; done) | decide +kernel
theorem pn9 : plainName "java/util/ImmutableCollections$ListN" = true := by first | (simp [plainName, overriddenIn]; done) | decide +kernel
theorem own_EW {Z : State} {a0 : Array Value} (hw : ∀ d ∈ tables_1, d.before a0 Z = true) : EW Z a0 consts_1 := EW.cons (wd9 hw) (by decide) EW.nil
theorem own_CH {Z : State} {tb : Tables} {e : Env} {a0 : Array Value} (hw : ∀ d ∈ tables_1, d.before a0 Z = true) (hc : Calls_1 tb e a0 Z) (hcw : Jvm.Lit.compactW.before a0 Z = true) : CHv Z consts_1 Z.vm Z.heap := CHv.start (own_EW hw) (fun p hp => hc.1 p hp) hcw (wd12 hw) (wd11 hw)
theorem own_l12 {Z : State} {a0 : Array Value} (hw : ∀ d ∈ tables_1, d.before a0 Z = true) {d : ClassId} (hd : Z.vm.findClass "java/util/ImmutableCollections" = some d) : ∃ t, Z.vm.findClass "java/util/ImmutableCollections$List12" = some t := by
  obtain ⟨c, h1, -⟩ := Cond.classLink_spec hd (show (Cond.classLink _ _ _).holds a0 Z none Z [] = true from (wd110 hw)) {} rfl
  exact ⟨c, h1⟩

def Q3 (Z : State) (a1 : Addr) (h0 : Heap) (n0 : Nat) (v : Option Value) (h : Heap) (L : List Loc) : Prop := v = none ∧ Fr n0 L ∧ h = h0
set_option maxRecDepth 65536 in
set_option maxHeartbeats 40000000 in
theorem rm3 (l : Launch) (Z : State) (a0 : Array Value) (hw : ∀ d ∈ tables_1, d.before a0 Z = true) (a1 : Addr) (h0 : Heap) (n0 : Nat) (O0 : Old Z n0 h0) :
    Met l Z (⟨"java/lang/Record", "<init>", "()V"⟩ : MethodName) jdk_30_method_1_code 1 none ({ frames := 1, cells := 0, slots := 0, locals := 12 } : Room) [] #[(.ref a1)] h0 (Q3 Z a1 h0 n0) := by
  refine met_of (L0 := #[.val (.ref a1)]) (plainFor_of_name pn1) (fun m => by first | (simp [entryFrame, mkF, argsToLocals, Value.category]; done) | rfl) ?_
  intro p e s m below meth c T0 hx hby hml hown hnm hret hlk hZ X0 e0
  have N0 := Fr.nil n0
  refine o_aloadN X0 hx (hb hby d3_0) rfl rfl rfl ?_
  refine o_initO X0 hx hZ hown (wd27 hw) (wd28 hw) (wd29 hw) e0 (by rw [hml]; rfl) (hb hby d3_1) (by decide) (W := 0) rfl (by decide) rfl fun T1 X1 e1 => ?_
  exact o_retV X1 hx hlk hret (hb hby d3_4) (by decide) (by decide) e1 ⟨rfl, N0, rfl⟩
def Q2 (Z : State) (a1 : Addr) (b1 : Addr) (b2 : Addr) (b3 : Addr) (h0 : Heap) (n0 : Nat) (v : Option Value) (h : Heap) (L : List Loc) : Prop := v = none ∧ Fr n0 L ∧ Keep h0 h [a1] ∧ Exa Z h a1 "com/example/redoubt/redoubt/Command" ∧ Fld Z h a1 "com/example/redoubt/redoubt/Command" "op" "Lcom/example/redoubt/redoubt/Command$Op;" (.ref b1) ∧ Fld Z h a1 "com/example/redoubt/redoubt/Command" "key" "Ljava/lang/String;" (.ref b2) ∧ Fld Z h a1 "com/example/redoubt/redoubt/Command" "value" "[B" (.ref b3)
set_option maxRecDepth 65536 in
set_option maxHeartbeats 40000000 in
theorem rm2 (l : Launch) (Z : State) (a0 : Array Value) (hw : ∀ d ∈ tables_1, d.before a0 Z = true) (a1 : Addr) (b1 : Addr) (b2 : Addr) (b3 : Addr) (h0 : Heap) (n0 : Nat) (O0 : Old Z n0 h0) (E_a1 : Exa Z h0 a1 "com/example/redoubt/redoubt/Command") (F_a1_op : Fld Z h0 a1 "com/example/redoubt/redoubt/Command" "op" "Lcom/example/redoubt/redoubt/Command$Op;" .null) (F_a1_key : Fld Z h0 a1 "com/example/redoubt/redoubt/Command" "key" "Ljava/lang/String;" .null) (F_a1_value : Fld Z h0 a1 "com/example/redoubt/redoubt/Command" "value" "[B" .null) (na1 : n0 ≤ a1) :
    Met l Z (⟨"com/example/redoubt/redoubt/Command", "<init>", "(Lcom/example/redoubt/redoubt/Command$Op;Ljava/lang/String;[B)V"⟩ : MethodName) prog_9_method_1_code 4 none ({ frames := 2, cells := 0, slots := 0, locals := 24 } : Room) [] #[(.ref a1), (.ref b1), (.ref b2), (.ref b3)] h0 (Q2 Z a1 b1 b2 b3 h0 n0) := by
  refine met_of (L0 := #[.val (.ref a1), .val (.ref b1), .val (.ref b2), .val (.ref b3)]) (plainFor_of_name pn2) (fun m => by first | (simp [entryFrame, mkF, argsToLocals, Value.category]; done) | rfl) ?_
  intro p e s m below meth c T0 hx hby hml hown hnm hret hlk hZ X0 e0
  have N0 := Fr.nil n0
  have KK0 : Keep h0 h0 [a1] := Keep.refl _ _
  refine o_aloadN X0 hx (hb hby d2_0) rfl rfl rfl ?_
  refine o_special X0 hx hZ rfl rfl hown (wd22 hw) (wd23 hw) (by decide) (a := a1) (rm3 l Z a0 hw a1 h0 n0 O0 ) (wd26 hw) (wd25 hw) e0 (by rw [hml]; rfl) (argsL := []) (rest := []) (W := 0) pd0 rfl rfl rfl rfl (hb hby d2_1) (by decide) (by decide) (by decide) (by decide) (cells' := 0) (slots' := 0) rfl rfl rfl fun v1 T1 h1 Lc1 X1 e1 hq1 => ?_
  obtain ⟨rfl, N1q, K1⟩ := hq1
  have N1 := Fr.app N0 N1q
  have e1_2 : T1.heap = h0 := e1.trans K1
  show Goes p.tables e below (Ends s (Q2 Z a1 b1 b2 b3 h0 n0) ({ frames := 2, cells := 0, slots := 0, locals := 24 } : Room).cells ({ frames := 2, cells := 0, slots := 0, locals := 24 } : Room).slots) (T1.setTop (mkF m 4 #[.val (.ref a1), .val (.ref b1), .val (.ref b2), .val (.ref b3)] []))
  refine o_aloadN X1 hx (hb hby d2_4) rfl rfl rfl ?_
  refine o_aloadN X1 hx (hb hby d2_5) rfl rfl rfl ?_
  refine o_putF X1 hx hZ hown (host := "") (Or.inl (wd30 hw)) Via.refl e1_2 F_a1_op E_a1 (Or.inr ⟨(wd31 hw), rfl, hnm⟩) (wd5 hw) (ty := (.object "com/example/redoubt/redoubt/Command$Op")) (by decide) rfl rfl (hb hby d2_6) rfl fun T6 h6 X6 e6 W6 => ?_
  have F6 : Fld Z h6 a1 "com/example/redoubt/redoubt/Command" "op" "Lcom/example/redoubt/redoubt/Command$Op;" (.ref b1) := F_a1_op.same W6
  have N6 := Fr.snoc X6 N1 na1
  have KW6_h0 : Keep h0 h6 [a1] := KK0.wr W6 (Or.inl (List.mem_of_getElem? (i := 0) rfl))
  have OW6 : Old Z n0 h6 := O0.wr W6 na1
  refine o_aloadN X6 hx (hb hby d2_9) rfl rfl rfl ?_
  refine o_aloadN X6 hx (hb hby d2_10) rfl rfl rfl ?_
  have fF11 : Fld Z h6 a1 "com/example/redoubt/redoubt/Command" "key" "Ljava/lang/String;" .null := (F_a1_key.other W6 (Or.inr (slot_ne (Z := Z) (a0 := a0) (Or.inr (wd33 hw)) (Or.inr (wd31 hw)) (by decide) (t := (.object "java/lang/String")) (t' := (.object "com/example/redoubt/redoubt/Command$Op")) (by decide) (by decide))))
  have fE11 : Exa Z h6 a1 "com/example/redoubt/redoubt/Command" := (E_a1.wr W6)
  refine o_putF X6 hx hZ hown (host := "") (Or.inl (wd32 hw)) Via.refl e6 fF11 fE11 (Or.inr ⟨(wd33 hw), rfl, hnm⟩) (wd5 hw) (ty := (.object "java/lang/String")) (by decide) rfl rfl (hb hby d2_11) rfl fun T11 h11 X11 e11 W11 => ?_
  have F11 : Fld Z h11 a1 "com/example/redoubt/redoubt/Command" "key" "Ljava/lang/String;" (.ref b2) := fF11.same W11
  have N11 := Fr.snoc X11 N6 na1
  have KW11_h0 : Keep h0 h11 [a1] := KW6_h0.wr W11 (Or.inl (List.mem_of_getElem? (i := 0) rfl))
  have OW11 : Old Z n0 h11 := OW6.wr W11 na1
  refine o_aloadN X11 hx (hb hby d2_14) rfl rfl rfl ?_
  refine o_aloadN X11 hx (hb hby d2_15) rfl rfl rfl ?_
  have fF16 : Fld Z h11 a1 "com/example/redoubt/redoubt/Command" "value" "[B" .null := ((F_a1_value.other W6 (Or.inr (slot_ne (Z := Z) (a0 := a0) (Or.inr (wd35 hw)) (Or.inr (wd31 hw)) (by decide) (t := (.array .byte)) (t' := (.object "com/example/redoubt/redoubt/Command$Op")) (by decide) (by decide)))).other W11 (Or.inr (slot_ne (Z := Z) (a0 := a0) (Or.inr (wd35 hw)) (Or.inr (wd33 hw)) (by decide) (t := (.array .byte)) (t' := (.object "java/lang/String")) (by decide) (by decide))))
  have fE16 : Exa Z h11 a1 "com/example/redoubt/redoubt/Command" := (fE11.wr W11)
  refine o_putF X11 hx hZ hown (host := "") (Or.inl (wd34 hw)) Via.refl e11 fF16 fE16 (Or.inr ⟨(wd35 hw), rfl, hnm⟩) (wd5 hw) (ty := (.array .byte)) (by decide) rfl rfl (hb hby d2_16) rfl fun T16 h16 X16 e16 W16 => ?_
  have F16 : Fld Z h16 a1 "com/example/redoubt/redoubt/Command" "value" "[B" (.ref b3) := fF16.same W16
  have N16 := Fr.snoc X16 N11 na1
  have KW16_h0 : Keep h0 h16 [a1] := KW11_h0.wr W16 (Or.inl (List.mem_of_getElem? (i := 0) rfl))
  have OW16 : Old Z n0 h16 := OW11.wr W16 na1
  have fE19 : Exa Z h16 a1 "com/example/redoubt/redoubt/Command" := (fE16.wr W16)
  have fF19 : Fld Z h16 a1 "com/example/redoubt/redoubt/Command" "op" "Lcom/example/redoubt/redoubt/Command$Op;" (.ref b1) := ((F6.other W11 (Or.inr (slot_ne (Z := Z) (a0 := a0) (Or.inr (wd31 hw)) (Or.inr (wd33 hw)) (by decide) (t := (.object "com/example/redoubt/redoubt/Command$Op")) (t' := (.object "java/lang/String")) (by decide) (by decide)))).other W16 (Or.inr (slot_ne (Z := Z) (a0 := a0) (Or.inr (wd31 hw)) (Or.inr (wd35 hw)) (by decide) (t := (.object "com/example/redoubt/redoubt/Command$Op")) (t' := (.array .byte)) (by decide) (by decide))))
  have fF19_2 : Fld Z h16 a1 "com/example/redoubt/redoubt/Command" "key" "Ljava/lang/String;" (.ref b2) := (F11.other W16 (Or.inr (slot_ne (Z := Z) (a0 := a0) (Or.inr (wd33 hw)) (Or.inr (wd35 hw)) (by decide) (t := (.object "java/lang/String")) (t' := (.array .byte)) (by decide) (by decide))))
  exact o_retV X16 hx hlk hret (hb hby d2_19) (by decide) (by decide) e16 ⟨rfl, N16, KW16_h0, fE19, fF19, fF19_2, F16⟩
def Q1 (Z : State) (np : Addr) (nv : Addr) (kv : ClassId) (h0 : Heap) (n0 : Nat) (v : Option Value) (h : Heap) (L : List Loc) : Prop := ∃ b : Addr, ∃ ks : Addr, ∃ kb : Addr, ∃ kk : ClassId, v = some (.ref b) ∧ Fr n0 L ∧ Keep h0 h [] ∧ (h0.size ≤ b) ∧ Exa Z h b "com/example/redoubt/redoubt/Command" ∧ Fld Z h b "com/example/redoubt/redoubt/Command" "op" "Lcom/example/redoubt/redoubt/Command$Op;" (.ref np) ∧ Fld Z h b "com/example/redoubt/redoubt/Command" "key" "Ljava/lang/String;" (.ref ks) ∧ Fld Z h b "com/example/redoubt/redoubt/Command" "value" "[B" (.ref nv) ∧ Exa Z h ks "java/lang/String" ∧ Fld Z h ks "java/lang/String" "value" "[B" (.ref kb) ∧ Arv Z h kb kk .byte (0 : Int32) [] (.int (0 : Int32))
set_option maxRecDepth 65536 in
set_option maxHeartbeats 40000000 in
theorem rm1 (l : Launch) (Z : State) (a0 : Array Value) (hw : ∀ d ∈ tables_1, d.before a0 Z = true) (np : Addr) (nv : Addr) (kv : ClassId) (h0 : Heap) (n0 : Nat) (O0 : Old Z n0 h0) (S_NOOP : Sta Z Z.heap "com/example/redoubt/redoubt/Command$Op" "NOOP" "Lcom/example/redoubt/redoubt/Command$Op;" (.ref np)) (E_np : Exa Z h0 np "com/example/redoubt/redoubt/Command$Op") (F_np_code : Fld Z h0 np "com/example/redoubt/redoubt/Command$Op" "code" "I" (.int (3 : Int32))) (F_np_ordinal : Fld Z h0 np "java/lang/Enum" "ordinal" "I" (.int (2 : Int32))) (S_NO_VALUE : Sta Z Z.heap "com/example/redoubt/redoubt/Command" "NO_VALUE" "[B" (.ref nv)) (A_nv : Arv Z h0 nv kv .byte (0 : Int32) [] (.int (0 : Int32))) :
    MetN l Z consts_1 (⟨"com/example/redoubt/redoubt/Command", "noop", "()Lcom/example/redoubt/redoubt/Command;"⟩ : MethodName) prog_9_method_5_code 0 (some (.object "com/example/redoubt/redoubt/Command")) ({ frames := 3, cells := 3, slots := 7, locals := 40 } : Room) [] #[] h0 (Q1 Z np nv kv h0 n0) := by
  refine metN_of (L0 := #[]) (plainFor_of_name pn2) (fun m => by first | (simp [entryFrame, mkF, argsToLocals, Value.category]; done) | rfl) ?_
  intro p e s m below meth c T0 hx hby hml hown hnm hret hlk hZ H0 X0 e0
  have N0 := Fr.nil n0
  have B0 := Base.start s h0
  have KK0 : Keep h0 h0 [] := Keep.refl _ _
  refine o_new X0 hx hZ hown (wd4 hw) (wd5 hw) (wd2 hw) e0 (hb hby d1_0) (by decide) (by decide) (cells' := 1) (slots' := 3) rfl rfl rfl fun T0_2 h0_2 b0 g0 X0_2 e0_2 E0 A0 D0 => ?_
  have s_b0_h0 : h0.size ≤ b0 := Nat.le_trans KK0.1 (Nat.le_of_eq g0.symm)
  have n_b0 : n0 ≤ b0 := Nat.le_trans (O0.1 ▸ O0.2.1) (Nat.le_of_eq g0.symm)
  have KE0_h0 : Keep h0 h0_2 [] := KK0.ext E0
  have OE0 : Old Z n0 h0_2 := O0.ext E0
  have Fb0_op : Fld Z h0_2 b0 "com/example/redoubt/redoubt/Command" "op" "Lcom/example/redoubt/redoubt/Command$Op;" .null := D0 (Or.inr (wd31 hw)) (ty := (.object "com/example/redoubt/redoubt/Command$Op")) (by decide)
  have Fb0_key : Fld Z h0_2 b0 "com/example/redoubt/redoubt/Command" "key" "Ljava/lang/String;" .null := D0 (Or.inr (wd33 hw)) (ty := (.object "java/lang/String")) (by decide)
  have Fb0_value : Fld Z h0_2 b0 "com/example/redoubt/redoubt/Command" "value" "[B" .null := D0 (Or.inr (wd35 hw)) (ty := (.array .byte)) (by decide)
  refine o_dup X0_2 hx (hb hby d1_3) rfl rfl ?_
  refine o_getS X0_2 hx hZ hown (host := "") (Or.inl (wd6 hw)) Via.refl e0_2 (Sta.ext OE0.2 S_NOOP) (hb hby d1_4) rfl fun T4 X4 e4 => ?_
  have B7 : Base s s h0_2 := (B0.up E0.1)
  refine o_ldcH X4 hx hZ hown (wd9 hw) (own_sa hw) e4 B7 (own_EW hw) (by decide) (H0.ext E0) (vs := []) (z := (0 : Int32)) ⟨by decide, by decide +kernel⟩ (by decide) rfl (hb hby d1_7) (n := 0) (by decide) (by decide) (by decide) (by decide) (cells' := 3) (slots' := 7) rfl rfl rfl fun s7 T7 h7 a7 b7 kb7 X7 e7 E7 B7_2 hZ7 hown7 Ea7 Fc7 Fv7 (Ab7 : Arv Z h7 b7 kb7 .byte (0 : Int32) [] (.int (0 : Int32))) H7 hS7 => ?_
  have nS7 := hS7 b0 A0.lt (own_safeE H0 E0 (Safe.new (Nat.le_of_eq g0.symm)))
  have KE7_h0 : Keep h0 h7 [] := KE0_h0.ext E7
  have OE7 : Old Z n0 h7 := OE0.ext E7
  refine o_getS X7 hx hZ7 hown7 (host := "") (Or.inl (wd17 hw)) Via.refl e7 (Sta.ext OE7.2 S_NO_VALUE) (hb hby d1_9) rfl fun T9 X9 e9 => ?_
  have fE12 : Exa Z h7 b0 "com/example/redoubt/redoubt/Command" := (A0.ext E7)
  have fF12 : Fld Z h7 b0 "com/example/redoubt/redoubt/Command" "op" "Lcom/example/redoubt/redoubt/Command$Op;" .null := (Fb0_op.ext E7)
  have fF12_2 : Fld Z h7 b0 "com/example/redoubt/redoubt/Command" "key" "Ljava/lang/String;" .null := (Fb0_key.ext E7)
  have fF12_3 : Fld Z h7 b0 "com/example/redoubt/redoubt/Command" "value" "[B" .null := (Fb0_value.ext E7)
  refine o_special X9 hx hZ7 rfl rfl hown7 (wd19 hw) (wd20 hw) (by decide) (a := b0) (rm2 l Z a0 hw b0 np a7 nv h7 n0 OE7 fE12 fF12 fF12_2 fF12_3 n_b0) (wd21 hw) (wd2 hw) e9 (by rw [hml]; rfl) (argsL := [(.ref np), (.ref a7), (.ref nv)]) (rest := [(.ref b0)]) (W := 1) pd1 rfl rfl rfl rfl (hb hby d1_12) (by decide) (by decide) (by decide) (by decide) (cells' := 3) (slots' := 7) rfl rfl rfl fun v12 T12 h12 Lc12 X12 e12 hq12 => ?_
  obtain ⟨rfl, N12q, K12, qE_12, qF_12, qF_12_2, qF_12_3⟩ := hq12
  have N12 := Fr.app N0 N12q
  have KK12_h0 : Keep h0 h12 [] := KE7_h0.trans K12 (allS (Or.inr s_b0_h0) all0)
  have OK12 : Old Z n0 h12 := OE7.keep K12 (allS n_b0 all0)
  show Goes p.tables e below (EndsW s (Q1 Z np nv kv h0 n0) ({ frames := 3, cells := 3, slots := 7, locals := 40 } : Room).cells ({ frames := 3, cells := 3, slots := 7, locals := 40 } : Room).slots) (T12.setTop (mkF m 15 #[] [(.ref b0)]))
  have fE15 : Exa Z h12 a7 "java/lang/String" := (Ea7.keep K12)
  have fF15 : Fld Z h12 a7 "java/lang/String" "value" "[B" (.ref b7) := (Fv7.keep K12 (ninS (Ne.symm nS7.1) nin0))
  have fA15 : Arv Z h12 b7 kb7 .byte (0 : Int32) [] (.int (0 : Int32)) := (Ab7.keep K12 (ninS (Ne.symm nS7.2) nin0))
  have B15 : Base s s7 h12 := (B7_2.up K12.1)
  exact o_retW X12 hx hlk (t := (.object "com/example/redoubt/redoubt/Command")) hret rfl (Or.inr (Or.inr (Or.inr (Or.inr ⟨rfl, rfl, rfl⟩)))) (hb hby d1_15) (by decide) (by decide) e12 B15 ⟨b0, a7, b7, kb7, rfl, N12, KK12_h0, s_b0_h0, qE_12, qF_12, qF_12_2, qF_12_3, fE15, fF15, fA15⟩
def Q5 (Z : State) (a1 : Addr) (b1 : Addr) (h0 : Heap) (n0 : Nat) (v : Option Value) (h : Heap) (L : List Loc) : Prop := v = some (.ref b1) ∧ Fr n0 L ∧ h = h0
set_option maxRecDepth 65536 in
set_option maxHeartbeats 40000000 in
theorem rm5 (l : Launch) (Z : State) (a0 : Array Value) (hw : ∀ d ∈ tables_1, d.before a0 Z = true) (a1 : Addr) (b1 : Addr) (h0 : Heap) (n0 : Nat) (O0 : Old Z n0 h0) (F_a1_op : Fld Z h0 a1 "com/example/redoubt/redoubt/Command" "op" "Lcom/example/redoubt/redoubt/Command$Op;" (.ref b1)) :
    Met l Z (⟨"com/example/redoubt/redoubt/Command", "op", "()Lcom/example/redoubt/redoubt/Command$Op;"⟩ : MethodName) prog_9_method_17_code 1 (some (.object "com/example/redoubt/redoubt/Command$Op")) ({ frames := 0, cells := 0, slots := 0, locals := 0 } : Room) [] #[(.ref a1)] h0 (Q5 Z a1 b1 h0 n0) := by
  refine met_of (L0 := #[.val (.ref a1)]) (plainFor_of_name pn2) (fun m => by first | (simp [entryFrame, mkF, argsToLocals, Value.category]; done) | rfl) ?_
  intro p e s m below meth c T0 hx hby hml hown hnm hret hlk hZ X0 e0
  have N0 := Fr.nil n0
  refine o_aloadN X0 hx (hb hby d5_0) rfl rfl rfl ?_
  refine o_getF X0 hx hZ hown (host := "") (Or.inl (wd30 hw)) Via.refl e0 F_a1_op (hb hby d5_1) rfl fun T1 X1 e1 => ?_
  exact o_ret X1 hx hlk (t := (.object "com/example/redoubt/redoubt/Command$Op")) hret rfl (Or.inr (Or.inr (Or.inr (Or.inr ⟨rfl, rfl, rfl⟩)))) (hb hby d5_4) (by decide) (by decide) e1 ⟨rfl, N0, rfl⟩
def Q6 (Z : State) (a1 : Addr) (b2 : Addr) (h0 : Heap) (n0 : Nat) (v : Option Value) (h : Heap) (L : List Loc) : Prop := v = some (.ref b2) ∧ Fr n0 L ∧ h = h0
set_option maxRecDepth 65536 in
set_option maxHeartbeats 40000000 in
theorem rm6 (l : Launch) (Z : State) (a0 : Array Value) (hw : ∀ d ∈ tables_1, d.before a0 Z = true) (a1 : Addr) (b2 : Addr) (h0 : Heap) (n0 : Nat) (O0 : Old Z n0 h0) (F_a1_key : Fld Z h0 a1 "com/example/redoubt/redoubt/Command" "key" "Ljava/lang/String;" (.ref b2)) :
    Met l Z (⟨"com/example/redoubt/redoubt/Command", "key", "()Ljava/lang/String;"⟩ : MethodName) prog_9_method_18_code 1 (some (.object "java/lang/String")) ({ frames := 0, cells := 0, slots := 0, locals := 0 } : Room) [] #[(.ref a1)] h0 (Q6 Z a1 b2 h0 n0) := by
  refine met_of (L0 := #[.val (.ref a1)]) (plainFor_of_name pn2) (fun m => by first | (simp [entryFrame, mkF, argsToLocals, Value.category]; done) | rfl) ?_
  intro p e s m below meth c T0 hx hby hml hown hnm hret hlk hZ X0 e0
  have N0 := Fr.nil n0
  refine o_aloadN X0 hx (hb hby d6_0) rfl rfl rfl ?_
  refine o_getF X0 hx hZ hown (host := "") (Or.inl (wd32 hw)) Via.refl e0 F_a1_key (hb hby d6_1) rfl fun T1 X1 e1 => ?_
  exact o_ret X1 hx hlk (t := (.object "java/lang/String")) hret rfl (Or.inr (Or.inr (Or.inr (Or.inr ⟨rfl, rfl, rfl⟩)))) (hb hby d6_4) (by decide) (by decide) e1 ⟨rfl, N0, rfl⟩
def Q7 (Z : State) (a1 : Addr) (b3 : Addr) (h0 : Heap) (n0 : Nat) (v : Option Value) (h : Heap) (L : List Loc) : Prop := v = some (.ref b3) ∧ Fr n0 L ∧ h = h0
set_option maxRecDepth 65536 in
set_option maxHeartbeats 40000000 in
theorem rm7 (l : Launch) (Z : State) (a0 : Array Value) (hw : ∀ d ∈ tables_1, d.before a0 Z = true) (a1 : Addr) (b3 : Addr) (h0 : Heap) (n0 : Nat) (O0 : Old Z n0 h0) (F_a1_value : Fld Z h0 a1 "com/example/redoubt/redoubt/Command" "value" "[B" (.ref b3)) :
    Met l Z (⟨"com/example/redoubt/redoubt/Command", "value", "()[B"⟩ : MethodName) prog_9_method_19_code 1 (some (.array .byte)) ({ frames := 0, cells := 0, slots := 0, locals := 0 } : Room) [] #[(.ref a1)] h0 (Q7 Z a1 b3 h0 n0) := by
  refine met_of (L0 := #[.val (.ref a1)]) (plainFor_of_name pn2) (fun m => by first | (simp [entryFrame, mkF, argsToLocals, Value.category]; done) | rfl) ?_
  intro p e s m below meth c T0 hx hby hml hown hnm hret hlk hZ X0 e0
  have N0 := Fr.nil n0
  refine o_aloadN X0 hx (hb hby d7_0) rfl rfl rfl ?_
  refine o_getF X0 hx hZ hown (host := "") (Or.inl (wd34 hw)) Via.refl e0 F_a1_value (hb hby d7_1) rfl fun T1 X1 e1 => ?_
  exact o_ret X1 hx hlk (t := (.array .byte)) hret rfl (Or.inr (Or.inr (Or.inr (Or.inr ⟨rfl, rfl, rfl⟩)))) (hb hby d7_4) (by decide) (by decide) e1 ⟨rfl, N0, rfl⟩
def Q8 (Z : State) (a1 : Addr) (p1 : Int32) (h0 : Heap) (n0 : Nat) (v : Option Value) (h : Heap) (L : List Loc) : Prop := v = some (.int p1) ∧ Fr n0 L ∧ h = h0
set_option maxRecDepth 65536 in
set_option maxHeartbeats 40000000 in
theorem rm8 (l : Launch) (Z : State) (a0 : Array Value) (hw : ∀ d ∈ tables_1, d.before a0 Z = true) (a1 : Addr) (p1 : Int32) (h0 : Heap) (n0 : Nat) (O0 : Old Z n0 h0) (F_a1_code : Fld Z h0 a1 "com/example/redoubt/redoubt/Command$Op" "code" "I" (.int p1)) :
    Met l Z (⟨"com/example/redoubt/redoubt/Command$Op", "code", "()I"⟩ : MethodName) prog_10_method_4_code 1 (some .int) ({ frames := 0, cells := 0, slots := 0, locals := 0 } : Room) [] #[(.ref a1)] h0 (Q8 Z a1 p1 h0 n0) := by
  refine met_of (L0 := #[.val (.ref a1)]) (plainFor_of_name pn3) (fun m => by first | (simp [entryFrame, mkF, argsToLocals, Value.category]; done) | rfl) ?_
  intro p e s m below meth c T0 hx hby hml hown hnm hret hlk hZ X0 e0
  have N0 := Fr.nil n0
  refine o_aloadN X0 hx (hb hby d8_0) rfl rfl rfl ?_
  refine o_getF X0 hx hZ hown (host := "") (Or.inl (wd57 hw)) Via.refl e0 F_a1_code (hb hby d8_1) rfl fun T1 X1 e1 => ?_
  exact o_ret X1 hx hlk (t := .int) hret rfl (Or.inl ⟨rfl, by decide, _, rfl⟩) (hb hby d8_4) (by decide) (by decide) e1 ⟨rfl, N0, rfl⟩
def Q9 (Z : State) (ks : Addr) (kb : Addr) (kk : ClassId) (h0 : Heap) (n0 : Nat) (v : Option Value) (h : Heap) (L : List Loc) : Prop := v = some (.int (1 : Int32)) ∧ Fr n0 L ∧ h = h0
set_option maxRecDepth 65536 in
set_option maxHeartbeats 40000000 in
theorem rm9 (l : Launch) (Z : State) (a0 : Array Value) (hw : ∀ d ∈ tables_1, d.before a0 Z = true) (ks : Addr) (kb : Addr) (kk : ClassId) (h0 : Heap) (n0 : Nat) (O0 : Old Z n0 h0) (E_ks : Exa Z h0 ks "java/lang/String") (F_ks_value : Fld Z h0 ks "java/lang/String" "value" "[B" (.ref kb)) (A_kb : Arv Z h0 kb kk .byte (0 : Int32) [] (.int (0 : Int32))) :
    Met l Z (⟨"java/lang/String", "isEmpty", "()Z"⟩ : MethodName) jdk_42_method_55_code 1 (some .boolean) ({ frames := 0, cells := 0, slots := 0, locals := 0 } : Room) [] #[(.ref ks)] h0 (Q9 Z ks kb kk h0 n0) := by
  refine met_of (L0 := #[.val (.ref ks)]) (plainFor_of_name pn4) (fun m => by first | (simp [entryFrame, mkF, argsToLocals, Value.category]; done) | rfl) ?_
  intro p e s m below meth c T0 hx hby hml hown hnm hret hlk hZ X0 e0
  have N0 := Fr.nil n0
  refine o_aloadN X0 hx (hb hby d9_0) rfl rfl rfl ?_
  refine o_getF X0 hx hZ hown (host := "") (Or.inl (wd64 hw)) Via.refl e0 F_ks_value (hb hby d9_1) rfl fun T1 X1 e1 => ?_
  refine o_alen X1 hx hZ e1 A_kb (hb hby d9_4) rfl ?_
  refine o_ifNo X1 hx (hb hby d9_5) ((if0 _ _).trans (teq (by decide)).2) rfl ?_
  refine o_iconst X1 hx (hb hby d9_8) (v := (1 : Int32)) rfl rfl ?_
  refine o_goto X1 hx (hb hby d9_9) (by decide) (pc' := 13) (by decide) ?_
  exact o_ret X1 hx hlk (t := .boolean) hret rfl (Or.inl ⟨rfl, by decide, _, rfl⟩) (hb hby d9_13) (by decide) (by decide) e1 ⟨rfl, N0, rfl⟩
def Q11 (Z : State) (a1 : Addr) (p1 : Int32) (h0 : Heap) (n0 : Nat) (v : Option Value) (h : Heap) (L : List Loc) : Prop := v = some (.int p1) ∧ Fr n0 L ∧ h = h0
set_option maxRecDepth 65536 in
set_option maxHeartbeats 40000000 in
theorem rm11 (l : Launch) (Z : State) (a0 : Array Value) (hw : ∀ d ∈ tables_1, d.before a0 Z = true) (a1 : Addr) (p1 : Int32) (h0 : Heap) (n0 : Nat) (O0 : Old Z n0 h0) (F_a1_ordinal : Fld Z h0 a1 "java/lang/Enum" "ordinal" "I" (.int p1)) :
    Met l Z (⟨"java/lang/Enum", "ordinal", "()I"⟩ : MethodName) jdk_37_method_2_code 1 (some .int) ({ frames := 0, cells := 0, slots := 0, locals := 0 } : Room) [] #[(.ref a1)] h0 (Q11 Z a1 p1 h0 n0) := by
  refine met_of (L0 := #[.val (.ref a1)]) (plainFor_of_name pn5) (fun m => by first | (simp [entryFrame, mkF, argsToLocals, Value.category]; done) | rfl) ?_
  intro p e s m below meth c T0 hx hby hml hown hnm hret hlk hZ X0 e0
  have N0 := Fr.nil n0
  refine o_aloadN X0 hx (hb hby d11_0) rfl rfl rfl ?_
  refine o_getF X0 hx hZ hown (host := "") (Or.inl (wd75 hw)) Via.refl e0 F_a1_ordinal (hb hby d11_1) rfl fun T1 X1 e1 => ?_
  exact o_ret X1 hx hlk (t := .int) hret rfl (Or.inl ⟨rfl, by decide, _, rfl⟩) (hb hby d11_4) (by decide) (by decide) e1 ⟨rfl, N0, rfl⟩
def Q10 (Z : State) (np : Addr) (nv : Addr) (kv : ClassId) (ks : Addr) (kb : Addr) (kk : ClassId) (h0 : Heap) (n0 : Nat) (v : Option Value) (h : Heap) (L : List Loc) : Prop := v = some (.int (1 : Int32)) ∧ Fr n0 L ∧ h = h0
set_option maxRecDepth 65536 in
set_option maxHeartbeats 40000000 in
theorem rm10 (l : Launch) (Z : State) (a0 : Array Value) (hw : ∀ d ∈ tables_1, d.before a0 Z = true) (np : Addr) (nv : Addr) (kv : ClassId) (ks : Addr) (kb : Addr) (kk : ClassId) (h0 : Heap) (n0 : Nat) (O0 : Old Z n0 h0) (S_NOOP : Sta Z Z.heap "com/example/redoubt/redoubt/Command$Op" "NOOP" "Lcom/example/redoubt/redoubt/Command$Op;" (.ref np)) (E_np : Exa Z h0 np "com/example/redoubt/redoubt/Command$Op") (F_np_code : Fld Z h0 np "com/example/redoubt/redoubt/Command$Op" "code" "I" (.int (3 : Int32))) (F_np_ordinal : Fld Z h0 np "java/lang/Enum" "ordinal" "I" (.int (2 : Int32))) (S_NO_VALUE : Sta Z Z.heap "com/example/redoubt/redoubt/Command" "NO_VALUE" "[B" (.ref nv)) (A_nv : Arv Z h0 nv kv .byte (0 : Int32) [] (.int (0 : Int32))) (E_ks : Exa Z h0 ks "java/lang/String") (F_ks_value : Fld Z h0 ks "java/lang/String" "value" "[B" (.ref kb)) (A_kb : Arv Z h0 kb kk .byte (0 : Int32) [] (.int (0 : Int32))) :
    Met l Z (⟨"com/example/redoubt/redoubt/Command", "isWellFormed", "(Lcom/example/redoubt/redoubt/Command$Op;Ljava/lang/String;[B)Z"⟩ : MethodName) prog_9_method_12_code 4 (some .boolean) ({ frames := 1, cells := 0, slots := 0, locals := 12 } : Room) [] #[(.ref np), (.ref ks), (.ref nv)] h0 (Q10 Z np nv kv ks kb kk h0 n0) := by
  refine met_of (L0 := #[.val (.ref np), .val (.ref ks), .val (.ref nv), .unset]) (plainFor_of_name pn2) (fun m => by first | (simp [entryFrame, mkF, argsToLocals, Value.category]; done) | rfl) ?_
  intro p e s m below meth c T0 hx hby hml hown hnm hret hlk hZ X0 e0
  have N0 := Fr.nil n0
  refine o_aloadN X0 hx (hb hby d10_0) rfl rfl rfl ?_
  refine o_virtualUp X0 hx hZ (C := "com/example/redoubt/redoubt/Command$Op") (owner := "java/lang/Enum") hown (wd68 hw) (wd69 hw) (wd70 hw) (wd72 hw) (wd71 hw) (by decide) E_np (rm11 l Z a0 hw np ((2 : Int32)) h0 n0 O0 F_np_ordinal) (wd74 hw) (wd73 hw) e0 (by rw [hml]; rfl) (argsL := []) (rest := []) (W := 0) pd2 rfl rfl rfl rfl (hb hby d10_1) (by decide) (by decide) (by decide) (by decide) (cells' := 0) (slots' := 0) rfl rfl rfl fun v1 T1 h1 Lc1 X1 e1 hq1 => ?_
  obtain ⟨rfl, N1q, K1⟩ := hq1
  have N1 := Fr.app N0 N1q
  have e1_2 : T1.heap = h0 := e1.trans K1
  show Goes p.tables e below (Ends s (Q10 Z np nv kv ks kb kk h0 n0) ({ frames := 1, cells := 0, slots := 0, locals := 12 } : Room).cells ({ frames := 1, cells := 0, slots := 0, locals := 12 } : Room).slots) (T1.setTop (mkF m 4 #[.val (.ref np), .val (.ref ks), .val (.ref nv), .unset] [(.int (2 : Int32))]))
  refine o_tswIn X1 hx (hb hby d10_4) (by decide) rfl (by decide) (pc' := 96) (by decide) ?_
  refine o_aloadN X1 hx (hb hby d10_96) rfl rfl rfl ?_
  refine o_virtual X1 hx hZ (C := "java/lang/String") hown (wd77 hw) (wd60 hw) (notFace_of_selects (args := #[]) (mvT hZ (wd62 hw))) (wd62 hw) (wd61 hw) (by decide) E_ks (rm9 l Z a0 hw ks kb kk h0 n0 O0 E_ks F_ks_value A_kb) (wd63 hw) (wd10 hw) e1_2 (by rw [hml]; rfl) (argsL := []) (rest := []) (W := 0) pd3 rfl rfl rfl rfl (hb hby d10_97) (by decide) (by decide) (by decide) (by decide) (cells' := 0) (slots' := 0) rfl rfl rfl fun v97 T97 h97 Lc97 X97 e97 hq97 => ?_
  obtain ⟨rfl, N97q, K97⟩ := hq97
  have N97 := Fr.app N1 N97q
  have e97_2 : T97.heap = h0 := e97.trans K97
  show Goes p.tables e below (Ends s (Q10 Z np nv kv ks kb kk h0 n0) ({ frames := 1, cells := 0, slots := 0, locals := 12 } : Room).cells ({ frames := 1, cells := 0, slots := 0, locals := 12 } : Room).slots) (T97.setTop (mkF m 100 #[.val (.ref np), .val (.ref ks), .val (.ref nv), .unset] [(.int (1 : Int32))]))
  refine o_ifNo X97 hx (hb hby d10_100) ((if0 _ _).trans (feq (by decide)).1) rfl ?_
  refine o_aloadN X97 hx (hb hby d10_103) rfl rfl rfl ?_
  refine o_alen X97 hx hZ e97_2 A_nv (hb hby d10_104) rfl ?_
  refine o_ifNo X97 hx (hb hby d10_105) ((if0 _ _).trans (teq (by decide)).2) rfl ?_
  refine o_iconst X97 hx (hb hby d10_108) (v := (1 : Int32)) rfl rfl ?_
  refine o_goto X97 hx (hb hby d10_109) (by decide) (pc' := 214) (by decide) ?_
  refine o_istoreN X97 hx (hb hby d10_214) (L' := #[.val (.ref np), .val (.ref ks), .val (.ref nv), .val (.int (1 : Int32))]) rfl rfl ?_
  refine o_iloadN X97 hx (hb hby d10_215) rfl rfl ?_
  exact o_ret X97 hx hlk (t := .boolean) hret rfl (Or.inl ⟨rfl, by decide, _, rfl⟩) (hb hby d10_216) (by decide) (by decide) e97_2 ⟨rfl, N97, rfl⟩
def Q14 (Z : State) (el : Addr) (ea : Addr) (ke : ClassId) (h0 : Heap) (n0 : Nat) (v : Option Value) (h : Heap) (L : List Loc) : Prop := v = some (.ref el) ∧ Fr n0 L ∧ h = h0
set_option maxRecDepth 65536 in
set_option maxHeartbeats 40000000 in
theorem rm14 (l : Launch) (Z : State) (a0 : Array Value) (hw : ∀ d ∈ tables_1, d.before a0 Z = true) (el : Addr) (ea : Addr) (ke : ClassId) (h0 : Heap) (n0 : Nat) (O0 : Old Z n0 h0) (S_EMPTY_LIST : Sta Z Z.heap "java/util/ImmutableCollections" "EMPTY_LIST" "Ljava/util/ImmutableCollections$ListN;" (.ref el)) (E_el : Exa Z h0 el "java/util/ImmutableCollections$ListN") (F_el_allowNulls : Fld Z h0 el "java/util/ImmutableCollections$ListN" "allowNulls" "Z" (.int (0 : Int32))) (F_el_elements : Fld Z h0 el "java/util/ImmutableCollections$ListN" "elements" "[Ljava/lang/Object;" (.ref ea)) (A_ea : Arv Z h0 ea ke (.object "java/lang/Object") (0 : Int32) [] .null) :
    Met l Z (⟨"java/util/List", "of", "()Ljava/util/List;"⟩ : MethodName) jdk_40_method_36_code 0 (some (.object "java/util/List")) ({ frames := 0, cells := 0, slots := 0, locals := 0 } : Room) [] #[] h0 (Q14 Z el ea ke h0 n0) := by
  refine met_of (L0 := #[]) (plainFor_of_name pn6) (fun m => by first | (simp [entryFrame, mkF, argsToLocals, Value.category]; done) | rfl) ?_
  intro p e s m below meth c T0 hx hby hml hown hnm hret hlk hZ X0 e0
  have N0 := Fr.nil n0
  refine o_getS X0 hx hZ hown (host := "") (Or.inl (wd95 hw)) Via.refl e0 (Sta.ext O0.2 S_EMPTY_LIST) (hb hby d14_0) rfl fun T0_2 X0_2 e0_2 => ?_
  exact o_ret X0_2 hx hlk (t := (.object "java/util/List")) hret rfl (Or.inr (Or.inr (Or.inr (Or.inr ⟨rfl, rfl, rfl⟩)))) (hb hby d14_3) (by decide) (by decide) e0_2 ⟨rfl, N0, rfl⟩
def Q15 (Z : State) (el : Addr) (ea : Addr) (ke : ClassId) (a1 : Addr) (k1 : ClassId) (h0 : Heap) (n0 : Nat) (v : Option Value) (h : Heap) (L : List Loc) : Prop := v = some (.ref el) ∧ Fr n0 L ∧ h = h0
set_option maxRecDepth 65536 in
set_option maxHeartbeats 40000000 in
theorem rm15 (l : Launch) (Z : State) (a0 : Array Value) (hw : ∀ d ∈ tables_1, d.before a0 Z = true) (el : Addr) (ea : Addr) (ke : ClassId) (a1 : Addr) (k1 : ClassId) (h0 : Heap) (n0 : Nat) (O0 : Old Z n0 h0) (S_EMPTY_LIST : Sta Z Z.heap "java/util/ImmutableCollections" "EMPTY_LIST" "Ljava/util/ImmutableCollections$ListN;" (.ref el)) (E_el : Exa Z h0 el "java/util/ImmutableCollections$ListN") (F_el_allowNulls : Fld Z h0 el "java/util/ImmutableCollections$ListN" "allowNulls" "Z" (.int (0 : Int32))) (F_el_elements : Fld Z h0 el "java/util/ImmutableCollections$ListN" "elements" "[Ljava/lang/Object;" (.ref ea)) (A_ea : Arv Z h0 ea ke (.object "java/lang/Object") (0 : Int32) [] .null) (A_a1 : Arv Z h0 a1 k1 (.object "com/example/redoubt/redoubt/Transaction$Operation") (0 : Int32) [] .null) :
    Met l Z (⟨"java/util/List", "of", "([Ljava/lang/Object;)Ljava/util/List;"⟩ : MethodName) jdk_40_method_47_code 2 (some (.object "java/util/List")) ({ frames := 0, cells := 0, slots := 0, locals := 0 } : Room) [] #[(.ref a1)] h0 (Q15 Z el ea ke a1 k1 h0 n0) := by
  refine met_of (L0 := #[.val (.ref a1), .unset]) (plainFor_of_name pn6) (fun m => by first | (simp [entryFrame, mkF, argsToLocals, Value.category]; done) | rfl) ?_
  intro p e s m below meth c T0 hx hby hml hown hnm hret hlk hZ X0 e0
  have N0 := Fr.nil n0
  refine o_aloadN X0 hx (hb hby d15_0) rfl rfl rfl ?_
  refine o_alen X0 hx hZ e0 A_a1 (hb hby d15_1) rfl ?_
  refine o_tswIn X0 hx (hb hby d15_2) (by decide) rfl (by decide) (pc' := 28) (by decide) ?_
  refine o_getS X0 hx hZ hown (host := "") (Or.inl (wd95 hw)) Via.refl e0 (Sta.ext O0.2 S_EMPTY_LIST) (hb hby d15_28) rfl fun T28 X28 e28 => ?_
  refine o_astoreN X28 hx (hb hby d15_31) rfl (L' := #[.val (.ref a1), .val (.ref el)]) rfl rfl ?_
  refine o_aloadN X28 hx (hb hby d15_32) rfl rfl rfl ?_
  exact o_ret X28 hx hlk (t := (.object "java/util/List")) hret rfl (Or.inr (Or.inr (Or.inr (Or.inr ⟨rfl, rfl, rfl⟩)))) (hb hby d15_33) (by decide) (by decide) e28 ⟨rfl, N0, rfl⟩
def Q18 (Z : State) (el : Addr) (ea : Addr) (ke : ClassId) (h0 : Heap) (n0 : Nat) (v : Option Value) (h : Heap) (L : List Loc) : Prop := v = some (.ref el) ∧ Fr n0 L ∧ h = h0
set_option maxRecDepth 65536 in
set_option maxHeartbeats 40000000 in
theorem rm18 (l : Launch) (Z : State) (a0 : Array Value) (hw : ∀ d ∈ tables_1, d.before a0 Z = true) (el : Addr) (ea : Addr) (ke : ClassId) (h0 : Heap) (n0 : Nat) (O0 : Old Z n0 h0) (S_EMPTY_LIST : Sta Z Z.heap "java/util/ImmutableCollections" "EMPTY_LIST" "Ljava/util/ImmutableCollections$ListN;" (.ref el)) (E_el : Exa Z h0 el "java/util/ImmutableCollections$ListN") (F_el_allowNulls : Fld Z h0 el "java/util/ImmutableCollections$ListN" "allowNulls" "Z" (.int (0 : Int32))) (F_el_elements : Fld Z h0 el "java/util/ImmutableCollections$ListN" "elements" "[Ljava/lang/Object;" (.ref ea)) (A_ea : Arv Z h0 ea ke (.object "java/lang/Object") (0 : Int32) [] .null) :
    Met l Z (⟨"java/util/ImmutableCollections", "listCopy", "(Ljava/util/Collection;)Ljava/util/List;"⟩ : MethodName) jdk_56_method_3_code 2 (some (.object "java/util/List")) ({ frames := 0, cells := 0, slots := 0, locals := 0 } : Room) [] #[(.ref el)] h0 (Q18 Z el ea ke h0 n0) := by
  refine met_of (L0 := #[.val (.ref el), .unset]) (plainFor_of_name pn7) (fun m => by first | (simp [entryFrame, mkF, argsToLocals, Value.category]; done) | rfl) ?_
  intro p e s m below meth c T0 hx hby hml hown hnm hret hlk hZ X0 e0
  have N0 := Fr.nil n0
  refine o_aloadN X0 hx (hb hby d18_0) rfl rfl rfl ?_
  obtain ⟨tq, fq⟩ := own_l12 hw (by rw [← hZ.alike.findClass]; exact hown)
  rcases own_ins (K := "java/util/ImmutableCollections$List12") E_el fq with Iq | Iq
  ·
    refine o_instY X0 hx hZ hown (wd110 hw) e0 Iq (hb hby d18_1) rfl fun T1 X1 e1 => ?_
    show Goes p.tables e below (Ends s (Q18 Z el ea ke h0 n0) ({ frames := 0, cells := 0, slots := 0, locals := 0 } : Room).cells ({ frames := 0, cells := 0, slots := 0, locals := 0 } : Room).slots) (T1.setTop (mkF m 4 #[.val (.ref el), .unset] [(.int (1 : Int32))]))
    refine o_ifYes X1 hx (hb hby d18_4) ((if0 _ _).trans (feq (by decide)).2) (by decide) (pc' := 26) (by decide) ?_
    refine o_aloadN X1 hx (hb hby d18_26) rfl rfl rfl ?_
    refine o_castY X1 hx hZ hown (wd120 hw) e1 (Ins.of_exa E_el (wd121 hw)) (hb hby d18_27) rfl fun T27 X27 e27 => ?_
    exact o_ret X27 hx hlk (t := (.object "java/util/List")) hret rfl (Or.inr (Or.inr (Or.inr (Or.inr ⟨rfl, rfl, rfl⟩)))) (hb hby d18_30) (by decide) (by decide) e27 ⟨rfl, N0, rfl⟩
  ·
    refine o_instNo X0 hx hZ hown (wd110 hw) e0 E_el Iq (hb hby d18_1) rfl fun T1_2 X1_2 e1_2 => ?_
    show Goes p.tables e below (Ends s (Q18 Z el ea ke h0 n0) ({ frames := 0, cells := 0, slots := 0, locals := 0 } : Room).cells ({ frames := 0, cells := 0, slots := 0, locals := 0 } : Room).slots) (T1_2.setTop (mkF m 4 #[.val (.ref el), .unset] [(.int (0 : Int32))]))
    refine o_ifNo X1_2 hx (hb hby d18_4) ((if0 _ _).trans (teq (by decide)).2) rfl ?_
    refine o_aloadN X1_2 hx (hb hby d18_7) rfl rfl rfl ?_
    refine o_instY X1_2 hx hZ hown (wd116 hw) e1_2 (Ins.self E_el) (hb hby d18_8) rfl fun T8 X8 e8 => ?_
    refine o_ifNo X8 hx (hb hby d18_11) ((if0 _ _).trans (feq (by decide)).1) rfl ?_
    refine o_aloadN X8 hx (hb hby d18_14) rfl rfl rfl ?_
    refine o_castY X8 hx hZ hown (wd116 hw) e8 (Ins.self E_el) (hb hby d18_15) rfl fun T15 X15 e15 => ?_
    refine o_astoreN X15 hx (hb hby d18_18) rfl (L' := #[.val (.ref el), .val (.ref el)]) rfl rfl ?_
    refine o_aloadN X15 hx (hb hby d18_19) rfl rfl rfl ?_
    refine o_getF X15 hx hZ hown (Or.inr (wd118 hw)) Via.refl e15 F_el_allowNulls (hb hby d18_20) rfl fun T20 X20 e20 => ?_
    refine o_ifNo X20 hx (hb hby d18_23) ((if0 _ _).trans (teq (by decide)).2) rfl ?_
    refine o_aloadN X20 hx (hb hby d18_26) rfl rfl rfl ?_
    refine o_castY X20 hx hZ hown (wd120 hw) e20 (Ins.of_exa E_el (wd121 hw)) (hb hby d18_27) rfl fun T27_2 X27_2 e27_2 => ?_
    exact o_ret X27_2 hx hlk (t := (.object "java/util/List")) hret rfl (Or.inr (Or.inr (Or.inr (Or.inr ⟨rfl, rfl, rfl⟩)))) (hb hby d18_30) (by decide) (by decide) e27_2 ⟨rfl, N0, rfl⟩
def Q17 (Z : State) (el : Addr) (ea : Addr) (ke : ClassId) (h0 : Heap) (n0 : Nat) (v : Option Value) (h : Heap) (L : List Loc) : Prop := v = some (.ref el) ∧ Fr n0 L ∧ h = h0
set_option maxRecDepth 65536 in
set_option maxHeartbeats 40000000 in
theorem rm17 (l : Launch) (Z : State) (a0 : Array Value) (hw : ∀ d ∈ tables_1, d.before a0 Z = true) (el : Addr) (ea : Addr) (ke : ClassId) (h0 : Heap) (n0 : Nat) (O0 : Old Z n0 h0) (S_EMPTY_LIST : Sta Z Z.heap "java/util/ImmutableCollections" "EMPTY_LIST" "Ljava/util/ImmutableCollections$ListN;" (.ref el)) (E_el : Exa Z h0 el "java/util/ImmutableCollections$ListN") (F_el_allowNulls : Fld Z h0 el "java/util/ImmutableCollections$ListN" "allowNulls" "Z" (.int (0 : Int32))) (F_el_elements : Fld Z h0 el "java/util/ImmutableCollections$ListN" "elements" "[Ljava/lang/Object;" (.ref ea)) (A_ea : Arv Z h0 ea ke (.object "java/lang/Object") (0 : Int32) [] .null) :
    Met l Z (⟨"java/util/List", "copyOf", "(Ljava/util/Collection;)Ljava/util/List;"⟩ : MethodName) jdk_40_method_48_code 1 (some (.object "java/util/List")) ({ frames := 1, cells := 0, slots := 0, locals := 13 } : Room) [] #[(.ref el)] h0 (Q17 Z el ea ke h0 n0) := by
  refine met_of (L0 := #[.val (.ref el)]) (plainFor_of_name pn6) (fun m => by first | (simp [entryFrame, mkF, argsToLocals, Value.category]; done) | rfl) ?_
  intro p e s m below meth c T0 hx hby hml hown hnm hret hlk hZ X0 e0
  have N0 := Fr.nil n0
  refine o_aloadN X0 hx (hb hby d17_0) rfl rfl rfl ?_
  refine o_static X0 hx hZ hown (wd107 hw) (wd108 hw) (by decide) (rm18 l Z a0 hw el ea ke h0 n0 O0 S_EMPTY_LIST E_el F_el_allowNulls F_el_elements A_ea) (wd109 hw) (wd96 hw) e0 (by rw [hml]; rfl) (argsL := [(.ref el)]) (rest := []) (W := 0) pd4 rfl rfl rfl rfl (hb hby d17_1) (by decide) (by decide) (by decide) (by decide) (cells' := 0) (slots' := 0) rfl rfl rfl fun v1 T1 h1 Lc1 X1 e1 hq1 => ?_
  obtain ⟨rfl, N1q, K1⟩ := hq1
  have N1 := Fr.app N0 N1q
  have e1_2 : T1.heap = h0 := e1.trans K1
  show Goes p.tables e below (Ends s (Q17 Z el ea ke h0 n0) ({ frames := 1, cells := 0, slots := 0, locals := 13 } : Room).cells ({ frames := 1, cells := 0, slots := 0, locals := 13 } : Room).slots) (T1.setTop (mkF m 4 #[.val (.ref el)] [(.ref el)]))
  exact o_ret X1 hx hlk (t := (.object "java/util/List")) hret rfl (Or.inr (Or.inr (Or.inr (Or.inr ⟨rfl, rfl, rfl⟩)))) (hb hby d17_4) (by decide) (by decide) e1_2 ⟨rfl, N1, rfl⟩
def Q16 (Z : State) (a1 : Addr) (el : Addr) (ea : Addr) (ke : ClassId) (h0 : Heap) (n0 : Nat) (v : Option Value) (h : Heap) (L : List Loc) : Prop := v = none ∧ Fr n0 L ∧ Keep h0 h [a1] ∧ Exa Z h a1 "com/example/redoubt/redoubt/Transaction" ∧ Fld Z h a1 "com/example/redoubt/redoubt/Transaction" "compares" "Ljava/util/List;" (.ref el) ∧ Fld Z h a1 "com/example/redoubt/redoubt/Transaction" "success" "Ljava/util/List;" (.ref el) ∧ Fld Z h a1 "com/example/redoubt/redoubt/Transaction" "failure" "Ljava/util/List;" (.ref el)
set_option maxRecDepth 65536 in
set_option maxHeartbeats 40000000 in
theorem rm16 (l : Launch) (Z : State) (a0 : Array Value) (hw : ∀ d ∈ tables_1, d.before a0 Z = true) (a1 : Addr) (el : Addr) (ea : Addr) (ke : ClassId) (h0 : Heap) (n0 : Nat) (O0 : Old Z n0 h0) (E_a1 : Exa Z h0 a1 "com/example/redoubt/redoubt/Transaction") (F_a1_compares : Fld Z h0 a1 "com/example/redoubt/redoubt/Transaction" "compares" "Ljava/util/List;" .null) (F_a1_success : Fld Z h0 a1 "com/example/redoubt/redoubt/Transaction" "success" "Ljava/util/List;" .null) (F_a1_failure : Fld Z h0 a1 "com/example/redoubt/redoubt/Transaction" "failure" "Ljava/util/List;" .null) (S_EMPTY_LIST : Sta Z Z.heap "java/util/ImmutableCollections" "EMPTY_LIST" "Ljava/util/ImmutableCollections$ListN;" (.ref el)) (E_el : Exa Z h0 el "java/util/ImmutableCollections$ListN") (F_el_allowNulls : Fld Z h0 el "java/util/ImmutableCollections$ListN" "allowNulls" "Z" (.int (0 : Int32))) (F_el_elements : Fld Z h0 el "java/util/ImmutableCollections$ListN" "elements" "[Ljava/lang/Object;" (.ref ea)) (A_ea : Arv Z h0 ea ke (.object "java/lang/Object") (0 : Int32) [] .null) (na1 : n0 ≤ a1) :
    Met l Z (⟨"com/example/redoubt/redoubt/Transaction", "<init>", "(Ljava/util/List;Ljava/util/List;Ljava/util/List;)V"⟩ : MethodName) prog_57_method_1_code 4 none ({ frames := 2, cells := 0, slots := 0, locals := 25 } : Room) [] #[(.ref a1), (.ref el), (.ref el), (.ref el)] h0 (Q16 Z a1 el ea ke h0 n0) := by
  refine met_of (L0 := #[.val (.ref a1), .val (.ref el), .val (.ref el), .val (.ref el)]) (plainFor_of_name pn8) (fun m => by first | (simp [entryFrame, mkF, argsToLocals, Value.category]; done) | rfl) ?_
  intro p e s m below meth c T0 hx hby hml hown hnm hret hlk hZ X0 e0
  have N0 := Fr.nil n0
  have KK0 : Keep h0 h0 [a1] := Keep.refl _ _
  refine o_aloadN X0 hx (hb hby d16_0) rfl rfl rfl ?_
  refine o_special X0 hx hZ rfl rfl hown (wd103 hw) (wd23 hw) (by decide) (a := a1) (rm3 l Z a0 hw a1 h0 n0 O0 ) (wd26 hw) (wd25 hw) e0 (by rw [hml]; rfl) (argsL := []) (rest := []) (W := 0) pd0 rfl rfl rfl rfl (hb hby d16_1) (by decide) (by decide) (by decide) (by decide) (cells' := 0) (slots' := 0) rfl rfl rfl fun v1 T1 h1 Lc1 X1 e1 hq1 => ?_
  obtain ⟨rfl, N1q, K1⟩ := hq1
  have N1 := Fr.app N0 N1q
  have e1_2 : T1.heap = h0 := e1.trans K1
  show Goes p.tables e below (Ends s (Q16 Z a1 el ea ke h0 n0) ({ frames := 2, cells := 0, slots := 0, locals := 25 } : Room).cells ({ frames := 2, cells := 0, slots := 0, locals := 25 } : Room).slots) (T1.setTop (mkF m 4 #[.val (.ref a1), .val (.ref el), .val (.ref el), .val (.ref el)] []))
  refine o_aloadN X1 hx (hb hby d16_4) rfl rfl rfl ?_
  refine o_static X1 hx hZ hown (wd104 hw) (wd105 hw) (by decide) (rm17 l Z a0 hw el ea ke h0 n0 O0 S_EMPTY_LIST E_el F_el_allowNulls F_el_elements A_ea) (wd106 hw) (wd93 hw) e1_2 (by rw [hml]; rfl) (argsL := [(.ref el)]) (rest := []) (W := 0) pd4 rfl rfl rfl rfl (hb hby d16_5) (by decide) (by decide) (by decide) (by decide) (cells' := 0) (slots' := 0) rfl rfl rfl fun v5 T5 h5 Lc5 X5 e5 hq5 => ?_
  obtain ⟨rfl, N5q, K5⟩ := hq5
  have N5 := Fr.app N1 N5q
  have e5_2 : T5.heap = h0 := e5.trans K5
  show Goes p.tables e below (Ends s (Q16 Z a1 el ea ke h0 n0) ({ frames := 2, cells := 0, slots := 0, locals := 25 } : Room).cells ({ frames := 2, cells := 0, slots := 0, locals := 25 } : Room).slots) (T5.setTop (mkF m 8 #[.val (.ref a1), .val (.ref el), .val (.ref el), .val (.ref el)] [(.ref el)]))
  refine o_astoreN X5 hx (hb hby d16_8) rfl (L' := #[.val (.ref a1), .val (.ref el), .val (.ref el), .val (.ref el)]) rfl rfl ?_
  refine o_aloadN X5 hx (hb hby d16_9) rfl rfl rfl ?_
  refine o_static X5 hx hZ hown (wd104 hw) (wd105 hw) (by decide) (rm17 l Z a0 hw el ea ke h0 n0 O0 S_EMPTY_LIST E_el F_el_allowNulls F_el_elements A_ea) (wd106 hw) (wd93 hw) e5_2 (by rw [hml]; rfl) (argsL := [(.ref el)]) (rest := []) (W := 0) pd4 rfl rfl rfl rfl (hb hby d16_10) (by decide) (by decide) (by decide) (by decide) (cells' := 0) (slots' := 0) rfl rfl rfl fun v10 T10 h10 Lc10 X10 e10 hq10 => ?_
  obtain ⟨rfl, N10q, K10⟩ := hq10
  have N10 := Fr.app N5 N10q
  have e10_2 : T10.heap = h0 := e10.trans K10
  show Goes p.tables e below (Ends s (Q16 Z a1 el ea ke h0 n0) ({ frames := 2, cells := 0, slots := 0, locals := 25 } : Room).cells ({ frames := 2, cells := 0, slots := 0, locals := 25 } : Room).slots) (T10.setTop (mkF m 13 #[.val (.ref a1), .val (.ref el), .val (.ref el), .val (.ref el)] [(.ref el)]))
  refine o_astoreN X10 hx (hb hby d16_13) rfl (L' := #[.val (.ref a1), .val (.ref el), .val (.ref el), .val (.ref el)]) rfl rfl ?_
  refine o_aloadN X10 hx (hb hby d16_14) rfl rfl rfl ?_
  refine o_static X10 hx hZ hown (wd104 hw) (wd105 hw) (by decide) (rm17 l Z a0 hw el ea ke h0 n0 O0 S_EMPTY_LIST E_el F_el_allowNulls F_el_elements A_ea) (wd106 hw) (wd93 hw) e10_2 (by rw [hml]; rfl) (argsL := [(.ref el)]) (rest := []) (W := 0) pd4 rfl rfl rfl rfl (hb hby d16_15) (by decide) (by decide) (by decide) (by decide) (cells' := 0) (slots' := 0) rfl rfl rfl fun v15 T15 h15 Lc15 X15 e15 hq15 => ?_
  obtain ⟨rfl, N15q, K15⟩ := hq15
  have N15 := Fr.app N10 N15q
  have e15_2 : T15.heap = h0 := e15.trans K15
  show Goes p.tables e below (Ends s (Q16 Z a1 el ea ke h0 n0) ({ frames := 2, cells := 0, slots := 0, locals := 25 } : Room).cells ({ frames := 2, cells := 0, slots := 0, locals := 25 } : Room).slots) (T15.setTop (mkF m 18 #[.val (.ref a1), .val (.ref el), .val (.ref el), .val (.ref el)] [(.ref el)]))
  refine o_astoreN X15 hx (hb hby d16_18) rfl (L' := #[.val (.ref a1), .val (.ref el), .val (.ref el), .val (.ref el)]) rfl rfl ?_
  refine o_aloadN X15 hx (hb hby d16_19) rfl rfl rfl ?_
  refine o_aloadN X15 hx (hb hby d16_20) rfl rfl rfl ?_
  refine o_putF X15 hx hZ hown (host := "") (Or.inl (wd122 hw)) Via.refl e15_2 F_a1_compares E_a1 (Or.inr ⟨(wd123 hw), rfl, hnm⟩) (wd90 hw) (ty := (.object "java/util/List")) (by decide) rfl rfl (hb hby d16_21) rfl fun T21 h21 X21 e21 W21 => ?_
  have F21 : Fld Z h21 a1 "com/example/redoubt/redoubt/Transaction" "compares" "Ljava/util/List;" (.ref el) := F_a1_compares.same W21
  have N21 := Fr.snoc X21 N15 na1
  have KW21_h0 : Keep h0 h21 [a1] := KK0.wr W21 (Or.inl (List.mem_of_getElem? (i := 0) rfl))
  have OW21 : Old Z n0 h21 := O0.wr W21 na1
  refine o_aloadN X21 hx (hb hby d16_24) rfl rfl rfl ?_
  refine o_aloadN X21 hx (hb hby d16_25) rfl rfl rfl ?_
  have fF26 : Fld Z h21 a1 "com/example/redoubt/redoubt/Transaction" "success" "Ljava/util/List;" .null := (F_a1_success.other W21 (Or.inr (slot_ne (Z := Z) (a0 := a0) (Or.inr (wd125 hw)) (Or.inr (wd123 hw)) (by decide) (t := (.object "java/util/List")) (t' := (.object "java/util/List")) (by decide) (by decide))))
  have fE26 : Exa Z h21 a1 "com/example/redoubt/redoubt/Transaction" := (E_a1.wr W21)
  refine o_putF X21 hx hZ hown (host := "") (Or.inl (wd124 hw)) Via.refl e21 fF26 fE26 (Or.inr ⟨(wd125 hw), rfl, hnm⟩) (wd90 hw) (ty := (.object "java/util/List")) (by decide) rfl rfl (hb hby d16_26) rfl fun T26 h26 X26 e26 W26 => ?_
  have F26 : Fld Z h26 a1 "com/example/redoubt/redoubt/Transaction" "success" "Ljava/util/List;" (.ref el) := fF26.same W26
  have N26 := Fr.snoc X26 N21 na1
  have KW26_h0 : Keep h0 h26 [a1] := KW21_h0.wr W26 (Or.inl (List.mem_of_getElem? (i := 0) rfl))
  have OW26 : Old Z n0 h26 := OW21.wr W26 na1
  refine o_aloadN X26 hx (hb hby d16_29) rfl rfl rfl ?_
  refine o_aloadN X26 hx (hb hby d16_30) rfl rfl rfl ?_
  have fF31 : Fld Z h26 a1 "com/example/redoubt/redoubt/Transaction" "failure" "Ljava/util/List;" .null := ((F_a1_failure.other W21 (Or.inr (slot_ne (Z := Z) (a0 := a0) (Or.inr (wd127 hw)) (Or.inr (wd123 hw)) (by decide) (t := (.object "java/util/List")) (t' := (.object "java/util/List")) (by decide) (by decide)))).other W26 (Or.inr (slot_ne (Z := Z) (a0 := a0) (Or.inr (wd127 hw)) (Or.inr (wd125 hw)) (by decide) (t := (.object "java/util/List")) (t' := (.object "java/util/List")) (by decide) (by decide))))
  have fE31 : Exa Z h26 a1 "com/example/redoubt/redoubt/Transaction" := (fE26.wr W26)
  refine o_putF X26 hx hZ hown (host := "") (Or.inl (wd126 hw)) Via.refl e26 fF31 fE31 (Or.inr ⟨(wd127 hw), rfl, hnm⟩) (wd90 hw) (ty := (.object "java/util/List")) (by decide) rfl rfl (hb hby d16_31) rfl fun T31 h31 X31 e31 W31 => ?_
  have F31 : Fld Z h31 a1 "com/example/redoubt/redoubt/Transaction" "failure" "Ljava/util/List;" (.ref el) := fF31.same W31
  have N31 := Fr.snoc X31 N26 na1
  have KW31_h0 : Keep h0 h31 [a1] := KW26_h0.wr W31 (Or.inl (List.mem_of_getElem? (i := 0) rfl))
  have OW31 : Old Z n0 h31 := OW26.wr W31 na1
  have fE34 : Exa Z h31 a1 "com/example/redoubt/redoubt/Transaction" := (fE31.wr W31)
  have fF34 : Fld Z h31 a1 "com/example/redoubt/redoubt/Transaction" "compares" "Ljava/util/List;" (.ref el) := ((F21.other W26 (Or.inr (slot_ne (Z := Z) (a0 := a0) (Or.inr (wd123 hw)) (Or.inr (wd125 hw)) (by decide) (t := (.object "java/util/List")) (t' := (.object "java/util/List")) (by decide) (by decide)))).other W31 (Or.inr (slot_ne (Z := Z) (a0 := a0) (Or.inr (wd123 hw)) (Or.inr (wd127 hw)) (by decide) (t := (.object "java/util/List")) (t' := (.object "java/util/List")) (by decide) (by decide))))
  have fF34_2 : Fld Z h31 a1 "com/example/redoubt/redoubt/Transaction" "success" "Ljava/util/List;" (.ref el) := (F26.other W31 (Or.inr (slot_ne (Z := Z) (a0 := a0) (Or.inr (wd125 hw)) (Or.inr (wd127 hw)) (by decide) (t := (.object "java/util/List")) (t' := (.object "java/util/List")) (by decide) (by decide))))
  exact o_retV X31 hx hlk hret (hb hby d16_34) (by decide) (by decide) e31 ⟨rfl, N31, KW31_h0, fE34, fF34, fF34_2, F31⟩
def Q13 (Z : State) (el : Addr) (ea : Addr) (ke : ClassId) (a1 : Addr) (k1 : ClassId) (h0 : Heap) (n0 : Nat) (v : Option Value) (h : Heap) (L : List Loc) : Prop := ∃ b : Addr, v = some (.ref b) ∧ Fr n0 L ∧ Keep h0 h [] ∧ (h0.size ≤ b) ∧ Exa Z h b "com/example/redoubt/redoubt/Transaction" ∧ Fld Z h b "com/example/redoubt/redoubt/Transaction" "compares" "Ljava/util/List;" (.ref el) ∧ Fld Z h b "com/example/redoubt/redoubt/Transaction" "success" "Ljava/util/List;" (.ref el) ∧ Fld Z h b "com/example/redoubt/redoubt/Transaction" "failure" "Ljava/util/List;" (.ref el)
set_option maxRecDepth 65536 in
set_option maxHeartbeats 40000000 in
theorem rm13 (l : Launch) (Z : State) (a0 : Array Value) (hw : ∀ d ∈ tables_1, d.before a0 Z = true) (el : Addr) (ea : Addr) (ke : ClassId) (a1 : Addr) (k1 : ClassId) (h0 : Heap) (n0 : Nat) (O0 : Old Z n0 h0) (S_EMPTY_LIST : Sta Z Z.heap "java/util/ImmutableCollections" "EMPTY_LIST" "Ljava/util/ImmutableCollections$ListN;" (.ref el)) (E_el : Exa Z h0 el "java/util/ImmutableCollections$ListN") (F_el_allowNulls : Fld Z h0 el "java/util/ImmutableCollections$ListN" "allowNulls" "Z" (.int (0 : Int32))) (F_el_elements : Fld Z h0 el "java/util/ImmutableCollections$ListN" "elements" "[Ljava/lang/Object;" (.ref ea)) (A_ea : Arv Z h0 ea ke (.object "java/lang/Object") (0 : Int32) [] .null) (A_a1 : Arv Z h0 a1 k1 (.object "com/example/redoubt/redoubt/Transaction$Operation") (0 : Int32) [] .null) :
    Met l Z (⟨"com/example/redoubt/redoubt/Transaction", "of", "([Lcom/example/redoubt/redoubt/Transaction$Operation;)Lcom/example/redoubt/redoubt/Transaction;"⟩ : MethodName) prog_57_method_2_code 1 (some (.object "com/example/redoubt/redoubt/Transaction")) ({ frames := 3, cells := 1, slots := 3, locals := 41 } : Room) [] #[(.ref a1)] h0 (Q13 Z el ea ke a1 k1 h0 n0) := by
  refine met_of (L0 := #[.val (.ref a1)]) (plainFor_of_name pn8) (fun m => by first | (simp [entryFrame, mkF, argsToLocals, Value.category]; done) | rfl) ?_
  intro p e s m below meth c T0 hx hby hml hown hnm hret hlk hZ X0 e0
  have N0 := Fr.nil n0
  have KK0 : Keep h0 h0 [] := Keep.refl _ _
  refine o_new X0 hx hZ hown (wd89 hw) (wd90 hw) (wd87 hw) e0 (hb hby d13_0) (by decide) (by decide) (cells' := 1) (slots' := 3) rfl rfl rfl fun T0_2 h0_2 b0 g0 X0_2 e0_2 E0 A0 D0 => ?_
  have s_b0_h0 : h0.size ≤ b0 := Nat.le_trans KK0.1 (Nat.le_of_eq g0.symm)
  have n_b0 : n0 ≤ b0 := Nat.le_trans (O0.1 ▸ O0.2.1) (Nat.le_of_eq g0.symm)
  have KE0_h0 : Keep h0 h0_2 [] := KK0.ext E0
  have OE0 : Old Z n0 h0_2 := O0.ext E0
  have Fb0_compares : Fld Z h0_2 b0 "com/example/redoubt/redoubt/Transaction" "compares" "Ljava/util/List;" .null := D0 (Or.inr (wd123 hw)) (ty := (.object "java/util/List")) (by decide)
  have Fb0_success : Fld Z h0_2 b0 "com/example/redoubt/redoubt/Transaction" "success" "Ljava/util/List;" .null := D0 (Or.inr (wd125 hw)) (ty := (.object "java/util/List")) (by decide)
  have Fb0_failure : Fld Z h0_2 b0 "com/example/redoubt/redoubt/Transaction" "failure" "Ljava/util/List;" .null := D0 (Or.inr (wd127 hw)) (ty := (.object "java/util/List")) (by decide)
  refine o_dup X0_2 hx (hb hby d13_3) rfl rfl ?_
  have fE4 : Exa Z h0_2 el "java/util/ImmutableCollections$ListN" := (E_el.ext E0)
  have fF4 : Fld Z h0_2 el "java/util/ImmutableCollections$ListN" "allowNulls" "Z" (.int (0 : Int32)) := (F_el_allowNulls.ext E0)
  have fF4_2 : Fld Z h0_2 el "java/util/ImmutableCollections$ListN" "elements" "[Ljava/lang/Object;" (.ref ea) := (F_el_elements.ext E0)
  have fA4 : Arv Z h0_2 ea ke (.object "java/lang/Object") (0 : Int32) [] .null := (A_ea.ext E0)
  refine o_static X0_2 hx hZ hown (wd91 hw) (wd92 hw) (by decide) (rm14 l Z a0 hw el ea ke h0_2 n0 OE0 S_EMPTY_LIST fE4 fF4 fF4_2 fA4) (wd94 hw) (wd93 hw) e0_2 (by rw [hml]; rfl) (argsL := []) (rest := [(.ref b0), (.ref b0)]) (W := 2) pd5 rfl rfl rfl rfl (hb hby d13_4) (by decide) (by decide) (by decide) (by decide) (cells' := 1) (slots' := 3) rfl rfl rfl fun v4 T4 h4 Lc4 X4 e4 hq4 => ?_
  obtain ⟨rfl, N4q, K4⟩ := hq4
  have N4 := Fr.app N0 N4q
  have e4_2 : T4.heap = h0_2 := e4.trans K4
  show Goes p.tables e below (Ends s (Q13 Z el ea ke a1 k1 h0 n0) ({ frames := 3, cells := 1, slots := 3, locals := 41 } : Room).cells ({ frames := 3, cells := 1, slots := 3, locals := 41 } : Room).slots) (T4.setTop (mkF m 7 #[.val (.ref a1)] [(.ref el), (.ref b0), (.ref b0)]))
  refine o_aloadN X4 hx (hb hby d13_7) rfl rfl rfl ?_
  have fA8 : Arv Z h0_2 a1 k1 (.object "com/example/redoubt/redoubt/Transaction$Operation") (0 : Int32) [] .null := (A_a1.ext E0)
  refine o_static X4 hx hZ hown (wd97 hw) (wd98 hw) (by decide) (rm15 l Z a0 hw el ea ke a1 k1 h0_2 n0 OE0 S_EMPTY_LIST fE4 fF4 fF4_2 fA4 fA8) (wd99 hw) (wd93 hw) e4_2 (by rw [hml]; rfl) (argsL := [(.ref a1)]) (rest := [(.ref el), (.ref b0), (.ref b0)]) (W := 3) pd6 rfl rfl rfl rfl (hb hby d13_8) (by decide) (by decide) (by decide) (by decide) (cells' := 1) (slots' := 3) rfl rfl rfl fun v8 T8 h8 Lc8 X8 e8 hq8 => ?_
  obtain ⟨rfl, N8q, K8⟩ := hq8
  have N8 := Fr.app N4 N8q
  have e8_2 : T8.heap = h0_2 := e8.trans K8
  show Goes p.tables e below (Ends s (Q13 Z el ea ke a1 k1 h0 n0) ({ frames := 3, cells := 1, slots := 3, locals := 41 } : Room).cells ({ frames := 3, cells := 1, slots := 3, locals := 41 } : Room).slots) (T8.setTop (mkF m 11 #[.val (.ref a1)] [(.ref el), (.ref el), (.ref b0), (.ref b0)]))
  refine o_static X8 hx hZ hown (wd91 hw) (wd92 hw) (by decide) (rm14 l Z a0 hw el ea ke h0_2 n0 OE0 S_EMPTY_LIST fE4 fF4 fF4_2 fA4) (wd94 hw) (wd93 hw) e8_2 (by rw [hml]; rfl) (argsL := []) (rest := [(.ref el), (.ref el), (.ref b0), (.ref b0)]) (W := 4) pd5 rfl rfl rfl rfl (hb hby d13_11) (by decide) (by decide) (by decide) (by decide) (cells' := 1) (slots' := 3) rfl rfl rfl fun v11 T11 h11 Lc11 X11 e11 hq11 => ?_
  obtain ⟨rfl, N11q, K11⟩ := hq11
  have N11 := Fr.app N8 N11q
  have e11_2 : T11.heap = h0_2 := e11.trans K11
  show Goes p.tables e below (Ends s (Q13 Z el ea ke a1 k1 h0 n0) ({ frames := 3, cells := 1, slots := 3, locals := 41 } : Room).cells ({ frames := 3, cells := 1, slots := 3, locals := 41 } : Room).slots) (T11.setTop (mkF m 14 #[.val (.ref a1)] [(.ref el), (.ref el), (.ref el), (.ref b0), (.ref b0)]))
  refine o_special X11 hx hZ rfl rfl hown (wd100 hw) (wd101 hw) (by decide) (a := b0) (rm16 l Z a0 hw b0 el ea ke h0_2 n0 OE0 A0 Fb0_compares Fb0_success Fb0_failure S_EMPTY_LIST fE4 fF4 fF4_2 fA4 n_b0) (wd102 hw) (wd87 hw) e11_2 (by rw [hml]; rfl) (argsL := [(.ref el), (.ref el), (.ref el)]) (rest := [(.ref b0)]) (W := 1) pd7 rfl rfl rfl rfl (hb hby d13_14) (by decide) (by decide) (by decide) (by decide) (cells' := 1) (slots' := 3) rfl rfl rfl fun v14 T14 h14 Lc14 X14 e14 hq14 => ?_
  obtain ⟨rfl, N14q, K14, qE_14, qF_14, qF_14_2, qF_14_3⟩ := hq14
  have N14 := Fr.app N11 N14q
  have KK14_h0 : Keep h0 h14 [] := KE0_h0.trans K14 (allS (Or.inr s_b0_h0) all0)
  have OK14 : Old Z n0 h14 := OE0.keep K14 (allS n_b0 all0)
  show Goes p.tables e below (Ends s (Q13 Z el ea ke a1 k1 h0 n0) ({ frames := 3, cells := 1, slots := 3, locals := 41 } : Room).cells ({ frames := 3, cells := 1, slots := 3, locals := 41 } : Room).slots) (T14.setTop (mkF m 17 #[.val (.ref a1)] [(.ref b0)]))
  exact o_ret X14 hx hlk (t := (.object "com/example/redoubt/redoubt/Transaction")) hret rfl (Or.inr (Or.inr (Or.inr (Or.inr ⟨rfl, rfl, rfl⟩)))) (hb hby d13_17) (by decide) (by decide) e14 ⟨b0, rfl, N14, KK14_h0, s_b0_h0, qE_14, qF_14, qF_14_2, qF_14_3⟩
def Q12 (Z : State) (a1 : Addr) (np : Addr) (nv : Addr) (kv : ClassId) (el : Addr) (ea : Addr) (ke : ClassId) (h0 : Heap) (n0 : Nat) (v : Option Value) (h : Heap) (L : List Loc) : Prop := ∃ b : Addr, v = some (.ref b) ∧ Fr n0 L ∧ Keep h0 h [] ∧ (h0.size ≤ b) ∧ Exa Z h b "com/example/redoubt/redoubt/Transaction" ∧ Fld Z h b "com/example/redoubt/redoubt/Transaction" "compares" "Ljava/util/List;" (.ref el) ∧ Fld Z h b "com/example/redoubt/redoubt/Transaction" "success" "Ljava/util/List;" (.ref el) ∧ Fld Z h b "com/example/redoubt/redoubt/Transaction" "failure" "Ljava/util/List;" (.ref el)
set_option maxRecDepth 65536 in
set_option maxHeartbeats 40000000 in
theorem rm12 (l : Launch) (Z : State) (a0 : Array Value) (hw : ∀ d ∈ tables_1, d.before a0 Z = true) (a1 : Addr) (np : Addr) (nv : Addr) (kv : ClassId) (el : Addr) (ea : Addr) (ke : ClassId) (h0 : Heap) (n0 : Nat) (O0 : Old Z n0 h0) (F_a1_op : Fld Z h0 a1 "com/example/redoubt/redoubt/Command" "op" "Lcom/example/redoubt/redoubt/Command$Op;" (.ref np)) (S_NOOP : Sta Z Z.heap "com/example/redoubt/redoubt/Command$Op" "NOOP" "Lcom/example/redoubt/redoubt/Command$Op;" (.ref np)) (E_np : Exa Z h0 np "com/example/redoubt/redoubt/Command$Op") (F_np_code : Fld Z h0 np "com/example/redoubt/redoubt/Command$Op" "code" "I" (.int (3 : Int32))) (F_np_ordinal : Fld Z h0 np "java/lang/Enum" "ordinal" "I" (.int (2 : Int32))) (S_NO_VALUE : Sta Z Z.heap "com/example/redoubt/redoubt/Command" "NO_VALUE" "[B" (.ref nv)) (A_nv : Arv Z h0 nv kv .byte (0 : Int32) [] (.int (0 : Int32))) (S_EMPTY_LIST : Sta Z Z.heap "java/util/ImmutableCollections" "EMPTY_LIST" "Ljava/util/ImmutableCollections$ListN;" (.ref el)) (E_el : Exa Z h0 el "java/util/ImmutableCollections$ListN") (F_el_allowNulls : Fld Z h0 el "java/util/ImmutableCollections$ListN" "allowNulls" "Z" (.int (0 : Int32))) (F_el_elements : Fld Z h0 el "java/util/ImmutableCollections$ListN" "elements" "[Ljava/lang/Object;" (.ref ea)) (A_ea : Arv Z h0 ea ke (.object "java/lang/Object") (0 : Int32) [] .null) :
    Met l Z (⟨"com/example/redoubt/redoubt/Command", "asTransaction", "()Lcom/example/redoubt/redoubt/Transaction;"⟩ : MethodName) prog_9_method_11_code 2 (some (.object "com/example/redoubt/redoubt/Transaction")) ({ frames := 4, cells := 2, slots := 3, locals := 53 } : Room) [] #[(.ref a1)] h0 (Q12 Z a1 np nv kv el ea ke h0 n0) := by
  refine met_of (L0 := #[.val (.ref a1), .unset]) (plainFor_of_name pn2) (fun m => by first | (simp [entryFrame, mkF, argsToLocals, Value.category]; done) | rfl) ?_
  intro p e s m below meth c T0 hx hby hml hown hnm hret hlk hZ X0 e0
  have N0 := Fr.nil n0
  have KK0 : Keep h0 h0 [] := Keep.refl _ _
  refine o_aloadN X0 hx (hb hby d12_0) rfl rfl rfl ?_
  refine o_getF X0 hx hZ hown (host := "") (Or.inl (wd30 hw)) Via.refl e0 F_a1_op (hb hby d12_1) rfl fun T1 X1 e1 => ?_
  refine o_virtualUp X1 hx hZ (C := "com/example/redoubt/redoubt/Command$Op") (owner := "java/lang/Enum") hown (wd68 hw) (wd69 hw) (wd70 hw) (wd72 hw) (wd71 hw) (by decide) E_np (rm11 l Z a0 hw np ((2 : Int32)) h0 n0 O0 F_np_ordinal) (wd74 hw) (wd73 hw) e1 (by rw [hml]; rfl) (argsL := []) (rest := []) (W := 0) pd2 rfl rfl rfl rfl (hb hby d12_4) (by decide) (by decide) (by decide) (by decide) (cells' := 0) (slots' := 0) rfl rfl rfl fun v4 T4 h4 Lc4 X4 e4 hq4 => ?_
  obtain ⟨rfl, N4q, K4⟩ := hq4
  have N4 := Fr.app N0 N4q
  have e4_2 : T4.heap = h0 := e4.trans K4
  show Goes p.tables e below (Ends s (Q12 Z a1 np nv kv el ea ke h0 n0) ({ frames := 4, cells := 2, slots := 3, locals := 53 } : Room).cells ({ frames := 4, cells := 2, slots := 3, locals := 53 } : Room).slots) (T4.setTop (mkF m 7 #[.val (.ref a1), .unset] [(.int (2 : Int32))]))
  refine o_tswIn X4 hx (hb hby d12_7) (by decide) rfl (by decide) (pc' := 98) (by decide) ?_
  refine o_iconst X4 hx (hb hby d12_98) (v := (0 : Int32)) rfl rfl ?_
  refine o_newRE (ad := "[Lcom/example/redoubt/redoubt/Transaction$Operation;") X4 hx hZ hown (wd83 hw) (wd84 hw) e4_2 (hb hby d12_99) (by decide) (cap := 0) (by decide) (by decide) (by decide) (by decide) (cells' := 1) (slots' := 0) rfl rfl rfl rfl fun T99 h99 k99 b99 g99 X99 e99 E99 A99 Ex99 Ov99 => ?_
  have s_b99_h0 : h0.size ≤ b99 := Nat.le_trans KK0.1 (Nat.le_of_eq g99.symm)
  have n_b99 : n0 ≤ b99 := Nat.le_trans (O0.1 ▸ O0.2.1) (Nat.le_of_eq g99.symm)
  have KE99_h0 : Keep h0 h99 [] := KK0.ext E99
  have OE99 : Old Z n0 h99 := O0.ext E99
  have A_b99 : Arv Z h99 b99 k99 (.object "com/example/redoubt/redoubt/Transaction$Operation") (0 : Int32) [] .null := (Arv.new A99 (by decide)).pad (pad_rep [] .null 0)
  have fE102 : Exa Z h99 el "java/util/ImmutableCollections$ListN" := (E_el.ext E99)
  have fF102 : Fld Z h99 el "java/util/ImmutableCollections$ListN" "allowNulls" "Z" (.int (0 : Int32)) := (F_el_allowNulls.ext E99)
  have fF102_2 : Fld Z h99 el "java/util/ImmutableCollections$ListN" "elements" "[Ljava/lang/Object;" (.ref ea) := (F_el_elements.ext E99)
  have fA102 : Arv Z h99 ea ke (.object "java/lang/Object") (0 : Int32) [] .null := (A_ea.ext E99)
  refine o_static X99 hx hZ hown (wd85 hw) (wd86 hw) (by decide) (rm13 l Z a0 hw el ea ke b99 k99 h99 n0 OE99 S_EMPTY_LIST fE102 fF102 fF102_2 fA102 A_b99) (wd88 hw) (wd87 hw) e99 (by rw [hml]; rfl) (argsL := [(.ref b99)]) (rest := []) (W := 0) pd8 rfl rfl rfl rfl (hb hby d12_102) (by decide) (by decide) (by decide) (by decide) (cells' := 2) (slots' := 3) rfl rfl rfl fun v102 T102 h102 Lc102 X102 e102 hq102 => ?_
  obtain ⟨b_102, rfl, N102q, K102, hb_102, qE_102, qF_102, qF_102_2, qF_102_3⟩ := hq102
  have N102 := Fr.app N4 N102q
  have s_b_102_h0 : h0.size ≤ b_102 := Nat.le_trans KE99_h0.1 hb_102
  have n_b_102 : n0 ≤ b_102 := Nat.le_trans (OE99.1 ▸ OE99.2.1) hb_102
  have KK102_h0 : Keep h0 h102 [] := KE99_h0.trans K102 all0
  have OK102 : Old Z n0 h102 := OE99.keep K102 all0
  show Goes p.tables e below (Ends s (Q12 Z a1 np nv kv el ea ke h0 n0) ({ frames := 4, cells := 2, slots := 3, locals := 53 } : Room).cells ({ frames := 4, cells := 2, slots := 3, locals := 53 } : Room).slots) (T102.setTop (mkF m 105 #[.val (.ref a1), .unset] [(.ref b_102)]))
  refine o_goto X102 hx (hb hby d12_105) (by decide) (pc' := 119) (by decide) ?_
  refine o_astoreN X102 hx (hb hby d12_119) rfl (L' := #[.val (.ref a1), .val (.ref b_102)]) rfl rfl ?_
  refine o_aloadN X102 hx (hb hby d12_120) rfl rfl rfl ?_
  refine o_ifnonnullYes X102 hx (hb hby d12_121) (by decide) (pc' := 144) (by decide) ?_
  refine o_aloadN X102 hx (hb hby d12_144) rfl rfl rfl ?_
  exact o_ret X102 hx hlk (t := (.object "com/example/redoubt/redoubt/Transaction")) hret rfl (Or.inr (Or.inr (Or.inr (Or.inr ⟨rfl, rfl, rfl⟩)))) (hb hby d12_145) (by decide) (by decide) e102 ⟨b_102, rfl, N102, KK102_h0, s_b_102_h0, qE_102, qF_102, qF_102_2, qF_102_3⟩
def Q19 (Z : State) (a1 : Addr) (el : Addr) (h0 : Heap) (n0 : Nat) (v : Option Value) (h : Heap) (L : List Loc) : Prop := v = some (.ref el) ∧ Fr n0 L ∧ h = h0
set_option maxRecDepth 65536 in
set_option maxHeartbeats 40000000 in
theorem rm19 (l : Launch) (Z : State) (a0 : Array Value) (hw : ∀ d ∈ tables_1, d.before a0 Z = true) (a1 : Addr) (el : Addr) (h0 : Heap) (n0 : Nat) (O0 : Old Z n0 h0) (F_a1_compares : Fld Z h0 a1 "com/example/redoubt/redoubt/Transaction" "compares" "Ljava/util/List;" (.ref el)) :
    Met l Z (⟨"com/example/redoubt/redoubt/Transaction", "compares", "()Ljava/util/List;"⟩ : MethodName) prog_57_method_17_code 1 (some (.object "java/util/List")) ({ frames := 0, cells := 0, slots := 0, locals := 0 } : Room) [] #[(.ref a1)] h0 (Q19 Z a1 el h0 n0) := by
  refine met_of (L0 := #[.val (.ref a1)]) (plainFor_of_name pn8) (fun m => by first | (simp [entryFrame, mkF, argsToLocals, Value.category]; done) | rfl) ?_
  intro p e s m below meth c T0 hx hby hml hown hnm hret hlk hZ X0 e0
  have N0 := Fr.nil n0
  refine o_aloadN X0 hx (hb hby d19_0) rfl rfl rfl ?_
  refine o_getF X0 hx hZ hown (host := "") (Or.inl (wd122 hw)) Via.refl e0 F_a1_compares (hb hby d19_1) rfl fun T1 X1 e1 => ?_
  exact o_ret X1 hx hlk (t := (.object "java/util/List")) hret rfl (Or.inr (Or.inr (Or.inr (Or.inr ⟨rfl, rfl, rfl⟩)))) (hb hby d19_4) (by decide) (by decide) e1 ⟨rfl, N0, rfl⟩
def Q21 (Z : State) (a1 : Addr) (el : Addr) (h0 : Heap) (n0 : Nat) (v : Option Value) (h : Heap) (L : List Loc) : Prop := v = some (.ref el) ∧ Fr n0 L ∧ h = h0
set_option maxRecDepth 65536 in
set_option maxHeartbeats 40000000 in
theorem rm21 (l : Launch) (Z : State) (a0 : Array Value) (hw : ∀ d ∈ tables_1, d.before a0 Z = true) (a1 : Addr) (el : Addr) (h0 : Heap) (n0 : Nat) (O0 : Old Z n0 h0) (F_a1_success : Fld Z h0 a1 "com/example/redoubt/redoubt/Transaction" "success" "Ljava/util/List;" (.ref el)) :
    Met l Z (⟨"com/example/redoubt/redoubt/Transaction", "success", "()Ljava/util/List;"⟩ : MethodName) prog_57_method_18_code 1 (some (.object "java/util/List")) ({ frames := 0, cells := 0, slots := 0, locals := 0 } : Room) [] #[(.ref a1)] h0 (Q21 Z a1 el h0 n0) := by
  refine met_of (L0 := #[.val (.ref a1)]) (plainFor_of_name pn8) (fun m => by first | (simp [entryFrame, mkF, argsToLocals, Value.category]; done) | rfl) ?_
  intro p e s m below meth c T0 hx hby hml hown hnm hret hlk hZ X0 e0
  have N0 := Fr.nil n0
  refine o_aloadN X0 hx (hb hby d21_0) rfl rfl rfl ?_
  refine o_getF X0 hx hZ hown (host := "") (Or.inl (wd124 hw)) Via.refl e0 F_a1_success (hb hby d21_1) rfl fun T1 X1 e1 => ?_
  exact o_ret X1 hx hlk (t := (.object "java/util/List")) hret rfl (Or.inr (Or.inr (Or.inr (Or.inr ⟨rfl, rfl, rfl⟩)))) (hb hby d21_4) (by decide) (by decide) e1 ⟨rfl, N0, rfl⟩
def Q22 (Z : State) (a1 : Addr) (el : Addr) (h0 : Heap) (n0 : Nat) (v : Option Value) (h : Heap) (L : List Loc) : Prop := v = some (.ref el) ∧ Fr n0 L ∧ h = h0
set_option maxRecDepth 65536 in
set_option maxHeartbeats 40000000 in
theorem rm22 (l : Launch) (Z : State) (a0 : Array Value) (hw : ∀ d ∈ tables_1, d.before a0 Z = true) (a1 : Addr) (el : Addr) (h0 : Heap) (n0 : Nat) (O0 : Old Z n0 h0) (F_a1_failure : Fld Z h0 a1 "com/example/redoubt/redoubt/Transaction" "failure" "Ljava/util/List;" (.ref el)) :
    Met l Z (⟨"com/example/redoubt/redoubt/Transaction", "failure", "()Ljava/util/List;"⟩ : MethodName) prog_57_method_19_code 1 (some (.object "java/util/List")) ({ frames := 0, cells := 0, slots := 0, locals := 0 } : Room) [] #[(.ref a1)] h0 (Q22 Z a1 el h0 n0) := by
  refine met_of (L0 := #[.val (.ref a1)]) (plainFor_of_name pn8) (fun m => by first | (simp [entryFrame, mkF, argsToLocals, Value.category]; done) | rfl) ?_
  intro p e s m below meth c T0 hx hby hml hown hnm hret hlk hZ X0 e0
  have N0 := Fr.nil n0
  refine o_aloadN X0 hx (hb hby d22_0) rfl rfl rfl ?_
  refine o_getF X0 hx hZ hown (host := "") (Or.inl (wd126 hw)) Via.refl e0 F_a1_failure (hb hby d22_1) rfl fun T1 X1 e1 => ?_
  exact o_ret X1 hx hlk (t := (.object "java/util/List")) hret rfl (Or.inr (Or.inr (Or.inr (Or.inr ⟨rfl, rfl, rfl⟩)))) (hb hby d22_4) (by decide) (by decide) e1 ⟨rfl, N0, rfl⟩
def Q20 (Z : State) (el : Addr) (ea : Addr) (ke : ClassId) (h0 : Heap) (n0 : Nat) (v : Option Value) (h : Heap) (L : List Loc) : Prop := v = some (.int (0 : Int32)) ∧ Fr n0 L ∧ h = h0
set_option maxRecDepth 65536 in
set_option maxHeartbeats 40000000 in
theorem rm20 (l : Launch) (Z : State) (a0 : Array Value) (hw : ∀ d ∈ tables_1, d.before a0 Z = true) (el : Addr) (ea : Addr) (ke : ClassId) (h0 : Heap) (n0 : Nat) (O0 : Old Z n0 h0) (F_el_elements : Fld Z h0 el "java/util/ImmutableCollections$ListN" "elements" "[Ljava/lang/Object;" (.ref ea)) (A_ea : Arv Z h0 ea ke (.object "java/lang/Object") (0 : Int32) [] .null) :
    Met l Z (⟨"java/util/ImmutableCollections$ListN", "size", "()I"⟩ : MethodName) jdk_45_method_3_code 1 (some .int) ({ frames := 0, cells := 0, slots := 0, locals := 0 } : Room) [] #[(.ref el)] h0 (Q20 Z el ea ke h0 n0) := by
  refine met_of (L0 := #[.val (.ref el)]) (plainFor_of_name pn9) (fun m => by first | (simp [entryFrame, mkF, argsToLocals, Value.category]; done) | rfl) ?_
  intro p e s m below meth c T0 hx hby hml hown hnm hret hlk hZ X0 e0
  have N0 := Fr.nil n0
  refine o_aloadN X0 hx (hb hby d20_0) rfl rfl rfl ?_
  refine o_getF X0 hx hZ hown (host := "") (Or.inl (wd142 hw)) Via.refl e0 F_el_elements (hb hby d20_1) rfl fun T1 X1 e1 => ?_
  refine o_alen X1 hx hZ e1 A_ea (hb hby d20_4) rfl ?_
  exact o_ret X1 hx hlk (t := .int) hret rfl (Or.inl ⟨rfl, by decide, _, rfl⟩) (hb hby d20_5) (by decide) (by decide) e1 ⟨rfl, N0, rfl⟩
def Q0 (Z : State) (np : Addr) (nv : Addr) (kv : ClassId) (el : Addr) (ea : Addr) (ke : ClassId) (h0 : Heap) (n0 : Nat) (v : Option Value) (h : Heap) (L : List Loc) : Prop := v = some (.int (1 : Int32)) ∧ Fr n0 L ∧ Keep h0 h []
set_option maxRecDepth 65536 in
set_option maxHeartbeats 40000000 in
theorem rm0 (l : Launch) (Z : State) (a0 : Array Value) (hw : ∀ d ∈ tables_1, d.before a0 Z = true) (ws : List Jvm.Cond) (np : Addr) (nv : Addr) (kv : ClassId) (el : Addr) (ea : Addr) (ke : ClassId) (h0 : Heap) (n0 : Nat) (O0 : Old Z n0 h0) (S_NOOP : Sta Z Z.heap "com/example/redoubt/redoubt/Command$Op" "NOOP" "Lcom/example/redoubt/redoubt/Command$Op;" (.ref np)) (E_np : Exa Z h0 np "com/example/redoubt/redoubt/Command$Op") (F_np_code : Fld Z h0 np "com/example/redoubt/redoubt/Command$Op" "code" "I" (.int (3 : Int32))) (F_np_ordinal : Fld Z h0 np "java/lang/Enum" "ordinal" "I" (.int (2 : Int32))) (S_NO_VALUE : Sta Z Z.heap "com/example/redoubt/redoubt/Command" "NO_VALUE" "[B" (.ref nv)) (A_nv : Arv Z h0 nv kv .byte (0 : Int32) [] (.int (0 : Int32))) (S_EMPTY_LIST : Sta Z Z.heap "java/util/ImmutableCollections" "EMPTY_LIST" "Ljava/util/ImmutableCollections$ListN;" (.ref el)) (E_el : Exa Z h0 el "java/util/ImmutableCollections$ListN") (F_el_allowNulls : Fld Z h0 el "java/util/ImmutableCollections$ListN" "allowNulls" "Z" (.int (0 : Int32))) (F_el_elements : Fld Z h0 el "java/util/ImmutableCollections$ListN" "elements" "[Ljava/lang/Object;" (.ref ea)) (A_ea : Arv Z h0 ea ke (.object "java/lang/Object") (0 : Int32) [] .null) :
    MetN l Z consts_1 x code maxLocals ret room_1 ws #[] h0 (Q0 Z np nv kv el ea ke h0 n0) := by
  refine metN_of (L0 := #[.unset, .unset, .unset, .unset, .unset]) (plainFor_of_name pn0) (fun m => by first | (simp [entryFrame, mkF, argsToLocals, Value.category, maxLocals]; done) | rfl) ?_
  intro p e s m below meth c T0 hx hby hml hown hnm hret hlk hZ H0 X0 e0
  have N0 := Fr.nil n0
  have B0 := Base.start s h0
  have KK0 : Keep h0 h0 [] := Keep.refl _ _
  refine o_staticH X0 hx hZ hown (wd0 hw) (wd1 hw) (by decide) (rm1 l Z a0 hw np nv kv h0 n0 O0 S_NOOP E_np F_np_code F_np_ordinal S_NO_VALUE A_nv) (wd3 hw) (wd2 hw) e0 B0 (own_EW hw) H0 (by rw [hml]; rfl) (argsL := []) (rest := []) (W := 0) pd9 rfl rfl rfl rfl (hb hby at_0) (by decide) (by decide) (by decide) (by decide) (cells' := 3) (slots' := 7) rfl rfl rfl fun v0 s0 T0_2 h0_2 Lc0 X0_2 e0_2 gs0 B0_2 hZ0 hown0 hq0 => ?_
  obtain ⟨b_0, ks_0, kb_0, kk_0, rfl, N0q, K0, hb_0, qE_0, qF_0, qF_0_2, qF_0_3, qE_0_2, qF_0_4, qA_0⟩ := hq0
  have N0_2 := Fr.app N0 N0q
  have s_b_0_h0 : h0.size ≤ b_0 := Nat.le_trans KK0.1 hb_0
  have n_b_0 : n0 ≤ b_0 := Nat.le_trans (O0.1 ▸ O0.2.1) hb_0
  have KK0_h0 : Keep h0 h0_2 [] := KK0.trans K0 all0
  have OK0 : Old Z n0 h0_2 := O0.keep K0 all0
  show Goes p.tables e below (EndsW s (Q0 Z np nv kv el ea ke h0 n0) room_1.cells room_1.slots) (T0_2.setTop (mkF m 3 #[.unset, .unset, .unset, .unset, .unset] [(.ref b_0)]))
  refine o_astoreN X0_2 hx (hb hby at_3) rfl (L' := #[.val (.ref b_0), .unset, .unset, .unset, .unset]) rfl rfl ?_
  refine o_aloadN X0_2 hx (hb hby at_4) rfl rfl rfl ?_
  refine o_ifnonnullYes X0_2 hx (hb hby at_5) (by decide) (pc' := 10) (by decide) ?_
  refine o_aloadN X0_2 hx (hb hby at_10) rfl rfl rfl ?_
  refine o_virtual X0_2 hx hZ0 (C := "com/example/redoubt/redoubt/Command") hown0 (wd36 hw) (wd37 hw) (notFace_of_selects (args := #[]) (mvT hZ0 (wd39 hw))) (wd39 hw) (wd38 hw) (by decide) qE_0 (rm5 l Z a0 hw b_0 np h0_2 n0 OK0 qF_0) (wd40 hw) (wd2 hw) e0_2 (by rw [hml]; rfl) (argsL := []) (rest := []) (W := 0) pd10 rfl rfl rfl rfl (hb hby at_11) (by decide) (by decide) (by decide) (by decide) (cells' := 3) (slots' := 7) rfl rfl rfl fun v11 T11 h11 Lc11 X11 e11 hq11 => ?_
  obtain ⟨rfl, N11q, K11⟩ := hq11
  have N11 := Fr.app N0_2 N11q
  have e11_2 : T11.heap = h0_2 := e11.trans K11
  show Goes p.tables e below (EndsW s (Q0 Z np nv kv el ea ke h0 n0) room_1.cells room_1.slots) (T11.setTop (mkF m 14 #[.val (.ref b_0), .unset, .unset, .unset, .unset] [(.ref np)]))
  refine o_astoreN X11 hx (hb hby at_14) rfl (L' := #[.val (.ref b_0), .val (.ref np), .unset, .unset, .unset]) rfl rfl ?_
  refine o_aloadN X11 hx (hb hby at_15) rfl rfl rfl ?_
  refine o_virtual X11 hx hZ0 (C := "com/example/redoubt/redoubt/Command") hown0 (wd41 hw) (wd42 hw) (notFace_of_selects (args := #[]) (mvT hZ0 (wd44 hw))) (wd44 hw) (wd43 hw) (by decide) qE_0 (rm6 l Z a0 hw b_0 ks_0 h0_2 n0 OK0 qF_0_2) (wd45 hw) (wd2 hw) e11_2 (by rw [hml]; rfl) (argsL := []) (rest := []) (W := 0) pd11 rfl rfl rfl rfl (hb hby at_16) (by decide) (by decide) (by decide) (by decide) (cells' := 3) (slots' := 7) rfl rfl rfl fun v16 T16 h16 Lc16 X16 e16 hq16 => ?_
  obtain ⟨rfl, N16q, K16⟩ := hq16
  have N16 := Fr.app N11 N16q
  have e16_2 : T16.heap = h0_2 := e16.trans K16
  show Goes p.tables e below (EndsW s (Q0 Z np nv kv el ea ke h0 n0) room_1.cells room_1.slots) (T16.setTop (mkF m 19 #[.val (.ref b_0), .val (.ref np), .unset, .unset, .unset] [(.ref ks_0)]))
  refine o_astoreN X16 hx (hb hby at_19) rfl (L' := #[.val (.ref b_0), .val (.ref np), .val (.ref ks_0), .unset, .unset]) rfl rfl ?_
  refine o_aloadN X16 hx (hb hby at_20) rfl rfl rfl ?_
  refine o_virtual X16 hx hZ0 (C := "com/example/redoubt/redoubt/Command") hown0 (wd46 hw) (wd47 hw) (notFace_of_selects (args := #[]) (mvT hZ0 (wd49 hw))) (wd49 hw) (wd48 hw) (by decide) qE_0 (rm7 l Z a0 hw b_0 nv h0_2 n0 OK0 qF_0_3) (wd50 hw) (wd2 hw) e16_2 (by rw [hml]; rfl) (argsL := []) (rest := []) (W := 0) pd12 rfl rfl rfl rfl (hb hby at_21) (by decide) (by decide) (by decide) (by decide) (cells' := 3) (slots' := 7) rfl rfl rfl fun v21 T21 h21 Lc21 X21 e21 hq21 => ?_
  obtain ⟨rfl, N21q, K21⟩ := hq21
  have N21 := Fr.app N16 N21q
  have e21_2 : T21.heap = h0_2 := e21.trans K21
  show Goes p.tables e below (EndsW s (Q0 Z np nv kv el ea ke h0 n0) room_1.cells room_1.slots) (T21.setTop (mkF m 24 #[.val (.ref b_0), .val (.ref np), .val (.ref ks_0), .unset, .unset] [(.ref nv)]))
  refine o_astoreN X21 hx (hb hby at_24) rfl (L' := #[.val (.ref b_0), .val (.ref np), .val (.ref ks_0), .val (.ref nv), .unset]) rfl rfl ?_
  refine o_aloadN X21 hx (hb hby at_25) rfl rfl rfl ?_
  refine o_getS X21 hx hZ0 hown0 (host := "") (Or.inl (wd51 hw)) Via.refl e21_2 (Sta.ext OK0.2 S_NOOP) (hb hby at_26) rfl fun T26 X26 e26 => ?_
  refine o_acmp X26 hx (hb hby at_29) rfl rfl (same := true) (decide_eq_true rfl) (by decide) (pc' := 34) (by decide) ?_
  refine o_aloadN X26 hx (hb hby at_34) rfl rfl rfl ?_
  have fF35 : Fld Z h0_2 np "com/example/redoubt/redoubt/Command$Op" "code" "I" (.int (3 : Int32)) := (F_np_code.keep K0 nin0)
  have fE35 : Exa Z h0_2 np "com/example/redoubt/redoubt/Command$Op" := (E_np.keep K0)
  refine o_virtual X26 hx hZ0 (C := "com/example/redoubt/redoubt/Command$Op") hown0 (wd52 hw) (wd53 hw) (notFace_of_selects (args := #[]) (mvT hZ0 (wd55 hw))) (wd55 hw) (wd54 hw) (by decide) fE35 (rm8 l Z a0 hw np ((3 : Int32)) h0_2 n0 OK0 fF35) (wd56 hw) (wd7 hw) e26 (by rw [hml]; rfl) (argsL := []) (rest := []) (W := 0) pd2 rfl rfl rfl rfl (hb hby at_35) (by decide) (by decide) (by decide) (by decide) (cells' := 3) (slots' := 7) rfl rfl rfl fun v35 T35 h35 Lc35 X35 e35 hq35 => ?_
  obtain ⟨rfl, N35q, K35⟩ := hq35
  have N35 := Fr.app N21 N35q
  have e35_2 : T35.heap = h0_2 := e35.trans K35
  show Goes p.tables e below (EndsW s (Q0 Z np nv kv el ea ke h0 n0) room_1.cells room_1.slots) (T35.setTop (mkF m 38 #[.val (.ref b_0), .val (.ref np), .val (.ref ks_0), .val (.ref nv), .unset] [(.int (3 : Int32))]))
  refine o_iconst X35 hx (hb hby at_38) (v := (3 : Int32)) rfl rfl ?_
  refine o_icmpYes X35 hx (hb hby at_39) (teq (by decide)).1 (by decide) (pc' := 44) (by decide) ?_
  refine o_aloadN X35 hx (hb hby at_44) rfl rfl rfl ?_
  refine o_ifnullNo X35 hx (hb hby at_45) rfl ?_
  refine o_aloadN X35 hx (hb hby at_48) rfl rfl rfl ?_
  refine o_virtual X35 hx hZ0 (C := "java/lang/String") hown0 (wd59 hw) (wd60 hw) (notFace_of_selects (args := #[]) (mvT hZ0 (wd62 hw))) (wd62 hw) (wd61 hw) (by decide) qE_0_2 (rm9 l Z a0 hw ks_0 kb_0 kk_0 h0_2 n0 OK0 qE_0_2 qF_0_4 qA_0) (wd63 hw) (wd10 hw) e35_2 (by rw [hml]; rfl) (argsL := []) (rest := []) (W := 0) pd3 rfl rfl rfl rfl (hb hby at_49) (by decide) (by decide) (by decide) (by decide) (cells' := 3) (slots' := 7) rfl rfl rfl fun v49 T49 h49 Lc49 X49 e49 hq49 => ?_
  obtain ⟨rfl, N49q, K49⟩ := hq49
  have N49 := Fr.app N35 N49q
  have e49_2 : T49.heap = h0_2 := e49.trans K49
  show Goes p.tables e below (EndsW s (Q0 Z np nv kv el ea ke h0 n0) room_1.cells room_1.slots) (T49.setTop (mkF m 52 #[.val (.ref b_0), .val (.ref np), .val (.ref ks_0), .val (.ref nv), .unset] [(.int (1 : Int32))]))
  refine o_ifYes X49 hx (hb hby at_52) ((if0 _ _).trans (feq (by decide)).2) (by decide) (pc' := 57) (by decide) ?_
  refine o_aloadN X49 hx (hb hby at_57) rfl rfl rfl ?_
  refine o_ifnullNo X49 hx (hb hby at_58) rfl ?_
  refine o_aloadN X49 hx (hb hby at_61) rfl rfl rfl ?_
  have fA62 : Arv Z h0_2 nv kv .byte (0 : Int32) [] (.int (0 : Int32)) := (A_nv.keep K0 nin0)
  refine o_alen X49 hx hZ0 e49_2 fA62 (hb hby at_62) rfl ?_
  refine o_ifYes X49 hx (hb hby at_63) ((if0 _ _).trans (teq (by decide)).1) (by decide) (pc' := 68) (by decide) ?_
  refine o_aloadN X49 hx (hb hby at_68) rfl rfl rfl ?_
  refine o_aloadN X49 hx (hb hby at_69) rfl rfl rfl ?_
  refine o_aloadN X49 hx (hb hby at_70) rfl rfl rfl ?_
  have fF71 : Fld Z h0_2 np "java/lang/Enum" "ordinal" "I" (.int (2 : Int32)) := (F_np_ordinal.keep K0 nin0)
  refine o_static X49 hx hZ0 hown0 (wd65 hw) (wd66 hw) (by decide) (rm10 l Z a0 hw np nv kv ks_0 kb_0 kk_0 h0_2 n0 OK0 S_NOOP fE35 fF35 fF71 S_NO_VALUE fA62 qE_0_2 qF_0_4 qA_0) (wd67 hw) (wd2 hw) e49_2 (by rw [hml]; rfl) (argsL := [(.ref np), (.ref ks_0), (.ref nv)]) (rest := []) (W := 0) pd13 rfl rfl rfl rfl (hb hby at_71) (by decide) (by decide) (by decide) (by decide) (cells' := 3) (slots' := 7) rfl rfl rfl fun v71 T71 h71 Lc71 X71 e71 hq71 => ?_
  obtain ⟨rfl, N71q, K71⟩ := hq71
  have N71 := Fr.app N49 N71q
  have e71_2 : T71.heap = h0_2 := e71.trans K71
  show Goes p.tables e below (EndsW s (Q0 Z np nv kv el ea ke h0 n0) room_1.cells room_1.slots) (T71.setTop (mkF m 74 #[.val (.ref b_0), .val (.ref np), .val (.ref ks_0), .val (.ref nv), .unset] [(.int (1 : Int32))]))
  refine o_ifYes X71 hx (hb hby at_74) ((if0 _ _).trans (feq (by decide)).2) (by decide) (pc' := 79) (by decide) ?_
  refine o_aloadN X71 hx (hb hby at_79) rfl rfl rfl ?_
  have fE80 : Exa Z h0_2 el "java/util/ImmutableCollections$ListN" := (E_el.keep K0)
  have fF80 : Fld Z h0_2 el "java/util/ImmutableCollections$ListN" "allowNulls" "Z" (.int (0 : Int32)) := (F_el_allowNulls.keep K0 nin0)
  have fF80_2 : Fld Z h0_2 el "java/util/ImmutableCollections$ListN" "elements" "[Ljava/lang/Object;" (.ref ea) := (F_el_elements.keep K0 nin0)
  have fA80 : Arv Z h0_2 ea ke (.object "java/lang/Object") (0 : Int32) [] .null := (A_ea.keep K0 nin0)
  refine o_virtual X71 hx hZ0 (C := "com/example/redoubt/redoubt/Command") hown0 (wd78 hw) (wd79 hw) (notFace_of_selects (args := #[]) (mvT hZ0 (wd81 hw))) (wd81 hw) (wd80 hw) (by decide) qE_0 (rm12 l Z a0 hw b_0 np nv kv el ea ke h0_2 n0 OK0 qF_0 S_NOOP fE35 fF35 fF71 S_NO_VALUE fA62 S_EMPTY_LIST fE80 fF80 fF80_2 fA80) (wd82 hw) (wd2 hw) e71_2 (by rw [hml]; rfl) (argsL := []) (rest := []) (W := 0) pd14 rfl rfl rfl rfl (hb hby at_80) (by decide) (by decide) (by decide) (by decide) (cells' := 5) (slots' := 10) rfl rfl rfl fun v80 T80 h80 Lc80 X80 e80 hq80 => ?_
  obtain ⟨b_80, rfl, N80q, K80, hb_80, qE_80, qF_80, qF_80_2, qF_80_3⟩ := hq80
  have N80 := Fr.app N71 N80q
  have s_b_80_h0 : h0.size ≤ b_80 := Nat.le_trans KK0_h0.1 hb_80
  have n_b_80 : n0 ≤ b_80 := Nat.le_trans (OK0.1 ▸ OK0.2.1) hb_80
  have KK80_h0 : Keep h0 h80 [] := KK0_h0.trans K80 all0
  have OK80 : Old Z n0 h80 := OK0.keep K80 all0
  show Goes p.tables e below (EndsW s (Q0 Z np nv kv el ea ke h0 n0) room_1.cells room_1.slots) (T80.setTop (mkF m 83 #[.val (.ref b_0), .val (.ref np), .val (.ref ks_0), .val (.ref nv), .unset] [(.ref b_80)]))
  refine o_astore X80 hx (hb hby at_83) rfl (L' := #[.val (.ref b_0), .val (.ref np), .val (.ref ks_0), .val (.ref nv), .val (.ref b_80)]) rfl rfl ?_
  refine o_aload X80 hx (hb hby at_85) rfl rfl rfl ?_
  refine o_ifnonnullYes X80 hx (hb hby at_87) (by decide) (pc' := 92) (by decide) ?_
  refine o_aload X80 hx (hb hby at_92) rfl rfl rfl ?_
  refine o_virtual X80 hx hZ0 (C := "com/example/redoubt/redoubt/Transaction") hown0 (wd128 hw) (wd129 hw) (notFace_of_selects (args := #[]) (mvT hZ0 (wd131 hw))) (wd131 hw) (wd130 hw) (by decide) qE_80 (rm19 l Z a0 hw b_80 el h80 n0 OK80 qF_80) (wd132 hw) (wd87 hw) e80 (by rw [hml]; rfl) (argsL := []) (rest := []) (W := 0) pd5 rfl rfl rfl rfl (hb hby at_94) (by decide) (by decide) (by decide) (by decide) (cells' := 5) (slots' := 10) rfl rfl rfl fun v94 T94 h94 Lc94 X94 e94 hq94 => ?_
  obtain ⟨rfl, N94q, K94⟩ := hq94
  have N94 := Fr.app N80 N94q
  have e94_2 : T94.heap = h80 := e94.trans K94
  show Goes p.tables e below (EndsW s (Q0 Z np nv kv el ea ke h0 n0) room_1.cells room_1.slots) (T94.setTop (mkF m 97 #[.val (.ref b_0), .val (.ref np), .val (.ref ks_0), .val (.ref nv), .val (.ref b_80)] [(.ref el)]))
  have fF97 : Fld Z h80 el "java/util/ImmutableCollections$ListN" "elements" "[Ljava/lang/Object;" (.ref ea) := (fF80_2.keep K80 nin0)
  have fA97 : Arv Z h80 ea ke (.object "java/lang/Object") (0 : Int32) [] .null := (fA80.keep K80 nin0)
  have fE97 : Exa Z h80 el "java/util/ImmutableCollections$ListN" := (fE80.keep K80)
  refine o_iface X94 hx hZ0 (C := "java/util/ImmutableCollections$ListN") hown0 (wd133 hw) (wd134 hw) (mvT hZ0 (wd135 hw)) (wd136 hw) (wd137 hw) (wd138 hw) (wd139 hw) (wd121 hw) (by decide) fE97 (rm20 l Z a0 hw el ea ke h80 n0 OK80 fF97 fA97) (wd141 hw) (wd140 hw) e94_2 (by rw [hml]; rfl) (argsL := []) (rest := []) (W := 0) pd2 rfl rfl rfl rfl (hb hby at_97) (by decide) (by decide) (by decide) (by decide) (cells' := 5) (slots' := 10) rfl rfl rfl fun v97 T97 h97 Lc97 X97 e97 hq97 => ?_
  obtain ⟨rfl, N97q, K97⟩ := hq97
  have N97 := Fr.app N94 N97q
  have e97_2 : T97.heap = h80 := e97.trans K97
  show Goes p.tables e below (EndsW s (Q0 Z np nv kv el ea ke h0 n0) room_1.cells room_1.slots) (T97.setTop (mkF m 102 #[.val (.ref b_0), .val (.ref np), .val (.ref ks_0), .val (.ref nv), .val (.ref b_80)] [(.int (0 : Int32))]))
  refine o_ifNo X97 hx (hb hby at_102) ((if0 _ _).trans (teq (by decide)).2) rfl ?_
  refine o_aload X97 hx (hb hby at_105) rfl rfl rfl ?_
  refine o_virtual X97 hx hZ0 (C := "com/example/redoubt/redoubt/Transaction") hown0 (wd144 hw) (wd145 hw) (notFace_of_selects (args := #[]) (mvT hZ0 (wd147 hw))) (wd147 hw) (wd146 hw) (by decide) qE_80 (rm21 l Z a0 hw b_80 el h80 n0 OK80 qF_80_2) (wd148 hw) (wd87 hw) e97_2 (by rw [hml]; rfl) (argsL := []) (rest := []) (W := 0) pd5 rfl rfl rfl rfl (hb hby at_107) (by decide) (by decide) (by decide) (by decide) (cells' := 5) (slots' := 10) rfl rfl rfl fun v107 T107 h107 Lc107 X107 e107 hq107 => ?_
  obtain ⟨rfl, N107q, K107⟩ := hq107
  have N107 := Fr.app N97 N107q
  have e107_2 : T107.heap = h80 := e107.trans K107
  show Goes p.tables e below (EndsW s (Q0 Z np nv kv el ea ke h0 n0) room_1.cells room_1.slots) (T107.setTop (mkF m 110 #[.val (.ref b_0), .val (.ref np), .val (.ref ks_0), .val (.ref nv), .val (.ref b_80)] [(.ref el)]))
  refine o_iface X107 hx hZ0 (C := "java/util/ImmutableCollections$ListN") hown0 (wd133 hw) (wd134 hw) (mvT hZ0 (wd135 hw)) (wd136 hw) (wd137 hw) (wd138 hw) (wd139 hw) (wd121 hw) (by decide) fE97 (rm20 l Z a0 hw el ea ke h80 n0 OK80 fF97 fA97) (wd141 hw) (wd140 hw) e107_2 (by rw [hml]; rfl) (argsL := []) (rest := []) (W := 0) pd2 rfl rfl rfl rfl (hb hby at_110) (by decide) (by decide) (by decide) (by decide) (cells' := 5) (slots' := 10) rfl rfl rfl fun v110 T110 h110 Lc110 X110 e110 hq110 => ?_
  obtain ⟨rfl, N110q, K110⟩ := hq110
  have N110 := Fr.app N107 N110q
  have e110_2 : T110.heap = h80 := e110.trans K110
  show Goes p.tables e below (EndsW s (Q0 Z np nv kv el ea ke h0 n0) room_1.cells room_1.slots) (T110.setTop (mkF m 115 #[.val (.ref b_0), .val (.ref np), .val (.ref ks_0), .val (.ref nv), .val (.ref b_80)] [(.int (0 : Int32))]))
  refine o_ifNo X110 hx (hb hby at_115) ((if0 _ _).trans (teq (by decide)).2) rfl ?_
  refine o_aload X110 hx (hb hby at_118) rfl rfl rfl ?_
  refine o_virtual X110 hx hZ0 (C := "com/example/redoubt/redoubt/Transaction") hown0 (wd149 hw) (wd150 hw) (notFace_of_selects (args := #[]) (mvT hZ0 (wd152 hw))) (wd152 hw) (wd151 hw) (by decide) qE_80 (rm22 l Z a0 hw b_80 el h80 n0 OK80 qF_80_3) (wd153 hw) (wd87 hw) e110_2 (by rw [hml]; rfl) (argsL := []) (rest := []) (W := 0) pd5 rfl rfl rfl rfl (hb hby at_120) (by decide) (by decide) (by decide) (by decide) (cells' := 5) (slots' := 10) rfl rfl rfl fun v120 T120 h120 Lc120 X120 e120 hq120 => ?_
  obtain ⟨rfl, N120q, K120⟩ := hq120
  have N120 := Fr.app N110 N120q
  have e120_2 : T120.heap = h80 := e120.trans K120
  show Goes p.tables e below (EndsW s (Q0 Z np nv kv el ea ke h0 n0) room_1.cells room_1.slots) (T120.setTop (mkF m 123 #[.val (.ref b_0), .val (.ref np), .val (.ref ks_0), .val (.ref nv), .val (.ref b_80)] [(.ref el)]))
  refine o_iface X120 hx hZ0 (C := "java/util/ImmutableCollections$ListN") hown0 (wd133 hw) (wd134 hw) (mvT hZ0 (wd135 hw)) (wd136 hw) (wd137 hw) (wd138 hw) (wd139 hw) (wd121 hw) (by decide) fE97 (rm20 l Z a0 hw el ea ke h80 n0 OK80 fF97 fA97) (wd141 hw) (wd140 hw) e120_2 (by rw [hml]; rfl) (argsL := []) (rest := []) (W := 0) pd2 rfl rfl rfl rfl (hb hby at_123) (by decide) (by decide) (by decide) (by decide) (cells' := 5) (slots' := 10) rfl rfl rfl fun v123 T123 h123 Lc123 X123 e123 hq123 => ?_
  obtain ⟨rfl, N123q, K123⟩ := hq123
  have N123 := Fr.app N120 N123q
  have e123_2 : T123.heap = h80 := e123.trans K123
  show Goes p.tables e below (EndsW s (Q0 Z np nv kv el ea ke h0 n0) room_1.cells room_1.slots) (T123.setTop (mkF m 128 #[.val (.ref b_0), .val (.ref np), .val (.ref ks_0), .val (.ref nv), .val (.ref b_80)] [(.int (0 : Int32))]))
  refine o_ifNo X123 hx (hb hby at_128) ((if0 _ _).trans (teq (by decide)).2) rfl ?_
  refine o_iconst X123 hx (hb hby at_131) (v := (1 : Int32)) rfl rfl ?_
  refine o_goto X123 hx (hb hby at_132) (by decide) (pc' := 136) (by decide) ?_
  have B136 : Base s s0 h80 := (B0_2.up K80.1)
  exact o_retW X123 hx hlk (t := .boolean) hret rfl (Or.inl ⟨rfl, by decide, _, rfl⟩) (hb hby at_136) (by decide) (by decide) e123_2 B136 ⟨rfl, N123, KK80_h0⟩
set_option maxRecDepth 65536 in
set_option maxHeartbeats 40000000 in
theorem comes_1 {Post : Tables → Env → Array Value → State → Outcome → State → Prop} (hpost : ∀ tb e args s v u, (limb_1_1.after args s (.returned v) u = true ∧ limb_1_2.after args s (.returned v) u = true ∧ True) → ReturnedEndW s (.returned v) u (Jvm.fieldLocs frame_1_writes args s ++ Jvm.arrayLocs frame_1_arrays args s ++ Jvm.staticLocs frame_1_statics s) 16 1152 → Post tb e args s (.returned v) u) :
    ArmFor flags0 classFile x code maxLocals ret World_1 tables_1 room_1 Calls_1 rest_1 Pre_1 Post := by
  intro l hfl _ _ p e ha hc hk s m args below hf hA hF happ hP
  obtain ⟨hcalls, hrest, hpre⟩ := hP
  obtain ⟨-, -, -, hnamed, -, -, -, hat⟩ := (Spec.applies_iff hf).mp happ
  obtain ⟨hg, hn⟩ := and_e (Cond.before_iff.mp (show (Jvm.Cond.and given_1 narrow_1).before args s = true from hpre))
  obtain ⟨u1a, u1b⟩ := and_e hn
  obtain ⟨u2a, u2b⟩ := and_e u1b
  obtain ⟨u3a, u3b⟩ := and_e u2b
  obtain ⟨u4a, u4b⟩ := and_e u3b
  obtain rfl : args = #[] := by
    have hs : args.size = 0 := by simpa [Cond.value, given_1] using hg
    obtain ⟨L⟩ := args
    match L, hs with
    | [], _ => rfl
  have hw := fun d (hd : d ∈ tables_1) => atoms_spec (ws := Jvm.Cond.code x code maxLocals ret :: tables_1) hat d (List.mem_cons_of_mem _ hd)
  have hfit : Fit s := fun {y c} hc i hi => by
    obtain ⟨ha, rfl⟩ := Array.getElem?_eq_some_iff.mp hc
    have q := List.all_eq_true.mp ((Array.all_eq_true_iff_forall_mem.mp hF) _ (Array.getElem_mem ha)) i (List.mem_range.mpr hi)
    simpa [Array.getElem?_eq_getElem hi] using q
  obtain ⟨hsets, hown0⟩ := atoms_of _ (rest_1_c_eq ▸ (show rest_1_c.before _ s = true from hrest))
  obtain ⟨np0, enp⟩ := exa_v u1a
  have Enp := Exa.start enp u1a
  have Snp : Sta s s.heap "com/example/redoubt/redoubt/Command$Op" "NOOP" "Lcom/example/redoubt/redoubt/Command$Op;" (.ref np0) := Sta.start enp (Or.inr ⟨(wd7 hw), (wd8 hw)⟩)
  have Fcd := own_fld enp (eqv_i (Term.int_eval (3)) u4a)
  have For := own_fld enp (eqv_i (Term.int_eval (2)) u4b)
  obtain ⟨nv0, env⟩ := arr_v u2a
  have Snv : Sta s s.heap "com/example/redoubt/redoubt/Command" "NO_VALUE" "[B" (.ref nv0) := Sta.start env (Or.inr ⟨(wd2 hw), (wd18 hw)⟩)
  obtain ⟨kv0, Anv⟩ := own_arv0 (dv := .int 0) hfit env u2a (eqv_i (Term.int_eval (0)) u3a)
  obtain ⟨el0, eel⟩ := exa_v (Cond.before_iff.mp (hsets _ (List.mem_of_getElem? (i := 2) rfl)))
  have Eel := Exa.start eel (Cond.before_iff.mp (hsets _ (List.mem_of_getElem? (i := 2) rfl)))
  have Sel : Sta s s.heap "java/util/ImmutableCollections" "EMPTY_LIST" "Ljava/util/ImmutableCollections$ListN;" (.ref el0) := Sta.start eel (Or.inl (hsets _ (List.mem_of_getElem? (i := 1) rfl)))
  have Fan := own_fld eel (eqv_i (Term.int_eval (0)) (Cond.before_iff.mp (hsets _ (List.mem_of_getElem? (i := 6) rfl))))
  obtain ⟨ea0, eea⟩ := arr_v (Cond.before_iff.mp (hsets _ (List.mem_of_getElem? (i := 3) rfl)))
  have Fea := own_fld eel eea
  obtain ⟨ke0, Aea⟩ := own_arv0 (dv := .null) hfit eea (Cond.before_iff.mp (hsets _ (List.mem_of_getElem? (i := 3) rfl))) (eqv_i (Term.int_eval (0)) (Cond.before_iff.mp (hsets _ (List.mem_of_getElem? (i := 5) rfl))))
  have hcw0 : Jvm.Lit.compactW.before #[] s = true := (hsets _ (List.mem_of_getElem? (i := 9) rfl))
  obtain ⟨n, o, h1, h2, h3, _, L, rfl, ⟨rfl, N, -⟩, hq⟩ := rm0 l s _ hw tables_1 np0 nv0 kv0 el0 ea0 ke0 s.heap s.heap.size (Old.start s) Snp Enp Fcd For Snv Anv Sel Eel Fan Fea Aea p e ha hc hk s m _ below hf ((Spec.applies_iff_loose hf).mp happ).1 ⟨rfl, State.Warmed39.refl s, rfl, own_CH hw hcalls hcw0⟩ trivial
  refine ⟨n, _, h1, h2, h3, hpost _ _ _ _ _ _ ⟨Cond.after_iff.mpr rfl, Cond.after_iff.mpr (eq_i res_at (Term.int_eval (1)) rfl), trivial⟩ ⟨hq.1, hq.2.1, hq.2.2.1, (hq.2.2.2.sift fun y hy => Or.inr (N y hy)).mono (by decide) (by decide)⟩⟩
theorem main_1_1 : Claimed_1_1 := comes_1 fun _ _ _ _ _ _ h hF => ⟨h.1, hF⟩
theorem main_1_2 : Claimed_1_2 := comes_1 fun _ _ _ _ _ _ h hF => ⟨h.2.1, hF⟩
end Jvm.Pilot.@@N@@
namespace Jvm.Pilot.@@N@@
open Jvm Jvm.ClassFile Sem Op Lib Jvm.Free Jvm.Stand Jvm.Pilot.@@N@@.Jvm.D
/-! MADE BY PROGRAM (witnessworld.py) out of the Statement's table words and the real class files: 36 classes; the members and pool entries that the words name. The judged class is class 1, her method 1. -/
namespace start1
open Jvm.ClassFile
def u (s : String) : CpInfo := .utf8 (stringToUtf16 s)
/-- a pool by its gaps: so many unusable entries, then the entry; so many at the end -/
def gap : Nat → List CpInfo → List CpInfo
  | 0, r => r
  | n + 1, r => .unusable :: gap n r
def poolList (es : List (Nat × CpInfo)) (last : Nat) : List CpInfo := es.foldr (fun e r => gap e.1 (e.2 :: r)) (gap last [])
def pool (es : List (Nat × CpInfo)) (last : Nat) : Array CpInfo := ⟨poolList es last⟩
def fileOf (pool : Array CpInfo) (this : Nat) (attrs : Array Attribute := #[]) (ms : Array MethodInfo := #[]) (fl : Nat := 33) (sup : Nat := 0) (ifs : Array Nat := #[]) (fds : Array FieldInfo := #[]) : ClassFile where
  minorVersion := 0
  majorVersion := 65
  constantPool := pool
  accessFlags := fl
  thisClass := this
  superClass := sup
  interfaces := ifs
  fields := fds
  methods := ms
  attributes := attrs
def plain (name : String) (sup : Option ClassId) : Class where
  name := name
  kind := .ordinary
  loader := none
  accessFlags := 33
  super := sup
  interfaces := #[]
  cf := none
  fields := #[]
  methods := #[]
  instanceTypes := #[]
  staticTypes := #[]
  resolved := #[]
  callSites := []
  init := .initialized
  statics := none
  mirror := none

def pool0 : Array CpInfo := pool [(5, u "<init>"), (0, u "()V"), (1, .class_ 10), (1, u "java/lang/Object")] 113

def k0c0 : Code := { maxStack := 0, maxLocals := 1, code := object_method_1_code, exceptionTable := #[], attributes := #[] }
def k0m0 : Method := { name := "<init>", desc := "()V", sig := { parameters := [], returnType := none }, accessFlags := 1, code := some k0c0 }
/-- java/lang/Object -/
def k0 : Class := { plain "java/lang/Object" none with
  accessFlags := 33
  interfaces := #[]
  cf := some (fileOf pool0 8 #[] #[{ accessFlags := 1, nameIndex := 5, descriptorIndex := 6, attributes := #[] }] 33 0 #[] #[])
  fields := #[]
  methods := #[k0m0]
  instanceTypes := #[]
  staticTypes := #[]
  resolved := Array.replicate 124 none
  statics := none }

def pool1 : Array CpInfo := pool [(2, .class_ 4), (1, u "java/lang/Object"), (0, u "<init>"), (0, u "()V"), (0, .methodref 8 9), (0, .class_ 10), (0, .nameAndType 11 12), (0, u "com/example/redoubt/redoubt/Command"), (0, u "noop"), (0, u "()Lcom/example/redoubt/redoubt/Command;"), (0, .methodref 8 14), (0, .nameAndType 15 16), (0, u "op"), (0, u "()Lcom/example/redoubt/redoubt/Command$Op;"), (0, .methodref 8 18), (0, .nameAndType 19 20), (0, u "key"), (0, u "()Ljava/lang/String;"), (0, .methodref 8 22), (0, .nameAndType 23 24), (0, u "value"), (0, u "()[B"), (0, .fieldref 26 27), (0, .class_ 28), (0, .nameAndType 29 30), (0, u "com/example/redoubt/redoubt/Command$Op"), (0, u "NOOP"), (0, u "Lcom/example/redoubt/redoubt/Command$Op;"), (0, .methodref 26 32), (0, .nameAndType 33 34), (0, u "code"), (0, u "()I"), (0, .methodref 36 37), (0, .class_ 38), (0, .nameAndType 39 40), (0, u "java/lang/String"), (0, u "isEmpty"), (0, u "()Z"), (0, .methodref 8 42), (0, .nameAndType 43 44), (0, u "isWellFormed"), (0, u "(Lcom/example/redoubt/redoubt/Command$Op;Ljava/lang/String;[B)Z"), (0, .methodref 8 46), (0, .nameAndType 47 48), (0, u "asTransaction"), (0, u "()Lcom/example/redoubt/redoubt/Transaction;"), (0, .methodref 50 51), (0, .class_ 52), (0, .nameAndType 53 54), (0, u "com/example/redoubt/redoubt/Transaction"), (0, u "compares"), (0, u "()Ljava/util/List;"), (0, .interfaceMethodref 56 57), (0, .class_ 58), (0, .nameAndType 59 34), (0, u "java/util/List"), (0, u "size"), (0, .methodref 50 61), (0, .nameAndType 62 54), (0, u "success"), (0, .methodref 50 64), (0, .nameAndType 65 54), (0, u "failure"), (0, .class_ 67), (0, u "com/example/redoubt/redoubt/CommandNoopPinLaw"), (2, u "law")] 7

def k1m0 : Method := { name := "<init>", desc := "()V", sig := { parameters := [], returnType := none }, accessFlags := 1, code := none }
def k1c1 : Code := { maxStack := 3, maxLocals := 5, code := code, exceptionTable := #[], attributes := #[] }
def k1m1 : Method := { name := "law", desc := "()Z", sig := { parameters := [], returnType := some .boolean }, accessFlags := 9, code := some k1c1 }
/-- com/example/redoubt/redoubt/CommandNoopPinLaw -/
def k1 : Class := { plain "com/example/redoubt/redoubt/CommandNoopPinLaw" (some 0) with
  accessFlags := 49
  interfaces := #[]
  cf := some (fileOf pool1 66 #[] #[{ accessFlags := 1, nameIndex := 5, descriptorIndex := 6, attributes := #[] }, { accessFlags := 9, nameIndex := 70, descriptorIndex := 40, attributes := #[] }] 49 2 #[] #[])
  fields := #[]
  methods := #[k1m0, k1m1]
  instanceTypes := #[]
  staticTypes := #[]
  resolved := Array.replicate 78 none
  statics := none }

def pool2 : Array CpInfo := pool [(1, .methodref 2 3), (0, .class_ 4), (0, .nameAndType 5 6), (0, u "java/lang/Object"), (0, u "<init>"), (0, u "()V"), (0, .class_ 8), (0, u "java/lang/Record")] 13

def k2c0 : Code := { maxStack := 1, maxLocals := 1, code := jdk_30_method_1_code, exceptionTable := #[], attributes := #[] }
def k2m0 : Method := { name := "<init>", desc := "()V", sig := { parameters := [], returnType := none }, accessFlags := 4, code := some k2c0 }
/-- java/lang/Record -/
def k2 : Class := { plain "java/lang/Record" (some 0) with
  accessFlags := 1057
  interfaces := #[]
  cf := some (fileOf pool2 7 #[] #[{ accessFlags := 4, nameIndex := 5, descriptorIndex := 6, attributes := #[] }] 1057 2 #[] #[])
  fields := #[]
  methods := #[k2m0]
  instanceTypes := #[]
  staticTypes := #[]
  resolved := Array.replicate 22 none
  statics := none }

def pool3 : Array CpInfo := pool [(1, .methodref 2 3), (0, .class_ 4), (0, .nameAndType 5 6), (0, u "java/lang/Record"), (0, u "<init>"), (0, u "()V"), (0, .fieldref 8 9), (0, .class_ 10), (0, .nameAndType 11 12), (0, u "com/example/redoubt/redoubt/Command"), (0, u "op"), (0, u "Lcom/example/redoubt/redoubt/Command$Op;"), (0, .fieldref 8 14), (0, .nameAndType 15 16), (0, u "key"), (0, u "Ljava/lang/String;"), (0, .fieldref 8 18), (0, .nameAndType 19 20), (0, u "value"), (0, u "[B"), (1, .class_ 24), (1, u "com/example/redoubt/redoubt/Command$Op"), (1, .methodref 8 27), (0, .nameAndType 5 28), (0, u "(Lcom/example/redoubt/redoubt/Command$Op;Ljava/lang/String;[B)V"), (4, .class_ 34), (0, u "com/example/redoubt/redoubt/Transaction$Operation"), (3, .methodref 39 40), (0, .class_ 41), (0, .nameAndType 42 43), (0, u "com/example/redoubt/redoubt/Transaction"), (0, u "of"), (0, u "([Lcom/example/redoubt/redoubt/Transaction$Operation;)Lcom/example/redoubt/redoubt/Transaction;"), (7, .fieldref 8 52), (0, .nameAndType 53 20), (0, u "NO_VALUE"), (0, .fieldref 22 55), (0, .nameAndType 56 12), (0, u "NOOP"), (0, .string 58), (0, u ""), (6, u "()[B"), (29, u "()I"), (4, .methodref 22 101), (0, .nameAndType 102 95), (0, u "ordinal"), (19, .class_ 124), (1, u "java/lang/String"), (13, .integer 1048576), (0, .methodref 122 140), (0, .nameAndType 141 142), (0, u "isEmpty"), (0, u "()Z"), (36, u "MAX_KEY_AND_VALUE_BYTES"), (0, u "I"), (0, u "MAX_KEY_BYTES"), (2, u "MAX_VALUE_BYTES"), (0, u "MAX_LEASE_TTL"), (7, u "noop"), (0, u "()Lcom/example/redoubt/redoubt/Command;"), (6, u "asTransaction"), (0, u "()Lcom/example/redoubt/redoubt/Transaction;"), (0, u "isWellFormed"), (0, u "(Lcom/example/redoubt/redoubt/Command$Op;Ljava/lang/String;[B)Z"), (0, u "()Ljava/lang/String;"), (1, u "()Lcom/example/redoubt/redoubt/Command$Op;")] 34

def k3c0 : Code := { maxStack := 2, maxLocals := 4, code := prog_9_method_1_code, exceptionTable := #[], attributes := #[] }
def k3m0 : Method := { name := "<init>", desc := "(Lcom/example/redoubt/redoubt/Command$Op;Ljava/lang/String;[B)V", sig := { parameters := [(.object "com/example/redoubt/redoubt/Command$Op"), (.object "java/lang/String"), (.array .byte)], returnType := none }, accessFlags := 0, code := some k3c0 }
def k3c1 : Code := { maxStack := 5, maxLocals := 0, code := prog_9_method_5_code, exceptionTable := #[], attributes := #[] }
def k3m1 : Method := { name := "noop", desc := "()Lcom/example/redoubt/redoubt/Command;", sig := { parameters := [], returnType := some (.object "com/example/redoubt/redoubt/Command") }, accessFlags := 8, code := some k3c1 }
def k3c2 : Code := { maxStack := 5, maxLocals := 2, code := prog_9_method_11_code, exceptionTable := #[], attributes := #[] }
def k3m2 : Method := { name := "asTransaction", desc := "()Lcom/example/redoubt/redoubt/Transaction;", sig := { parameters := [], returnType := some (.object "com/example/redoubt/redoubt/Transaction") }, accessFlags := 0, code := some k3c2 }
def k3c3 : Code := { maxStack := 4, maxLocals := 4, code := prog_9_method_12_code, exceptionTable := #[], attributes := #[] }
def k3m3 : Method := { name := "isWellFormed", desc := "(Lcom/example/redoubt/redoubt/Command$Op;Ljava/lang/String;[B)Z", sig := { parameters := [(.object "com/example/redoubt/redoubt/Command$Op"), (.object "java/lang/String"), (.array .byte)], returnType := some .boolean }, accessFlags := 8, code := some k3c3 }
def k3c4 : Code := { maxStack := 1, maxLocals := 1, code := prog_9_method_17_code, exceptionTable := #[], attributes := #[] }
def k3m4 : Method := { name := "op", desc := "()Lcom/example/redoubt/redoubt/Command$Op;", sig := { parameters := [], returnType := some (.object "com/example/redoubt/redoubt/Command$Op") }, accessFlags := 1, code := some k3c4 }
def k3c5 : Code := { maxStack := 1, maxLocals := 1, code := prog_9_method_18_code, exceptionTable := #[], attributes := #[] }
def k3m5 : Method := { name := "key", desc := "()Ljava/lang/String;", sig := { parameters := [], returnType := some (.object "java/lang/String") }, accessFlags := 1, code := some k3c5 }
def k3c6 : Code := { maxStack := 1, maxLocals := 1, code := prog_9_method_19_code, exceptionTable := #[], attributes := #[] }
def k3m6 : Method := { name := "value", desc := "()[B", sig := { parameters := [], returnType := some (.array .byte) }, accessFlags := 1, code := some k3c6 }
/-- com/example/redoubt/redoubt/Command -/
def k3 : Class := { plain "com/example/redoubt/redoubt/Command" (some 2) with
  accessFlags := 48
  interfaces := #[]
  cf := some (fileOf pool3 8 #[.nestMembers #[22]] #[{ accessFlags := 0, nameIndex := 5, descriptorIndex := 28, attributes := #[] }, { accessFlags := 8, nameIndex := 193, descriptorIndex := 194, attributes := #[] }, { accessFlags := 0, nameIndex := 201, descriptorIndex := 202, attributes := #[] }, { accessFlags := 8, nameIndex := 203, descriptorIndex := 204, attributes := #[] }, { accessFlags := 1, nameIndex := 11, descriptorIndex := 207, attributes := #[] }, { accessFlags := 1, nameIndex := 15, descriptorIndex := 205, attributes := #[] }, { accessFlags := 1, nameIndex := 19, descriptorIndex := 65, attributes := #[] }] 48 2 #[] #[{ accessFlags := 18, nameIndex := 11, descriptorIndex := 12, attributes := #[] }, { accessFlags := 18, nameIndex := 15, descriptorIndex := 16, attributes := #[] }, { accessFlags := 18, nameIndex := 19, descriptorIndex := 20, attributes := #[] }, { accessFlags := 24, nameIndex := 181, descriptorIndex := 180, attributes := #[] }, { accessFlags := 24, nameIndex := 184, descriptorIndex := 180, attributes := #[] }, { accessFlags := 24, nameIndex := 185, descriptorIndex := 180, attributes := #[] }, { accessFlags := 24, nameIndex := 179, descriptorIndex := 180, attributes := #[] }, { accessFlags := 26, nameIndex := 53, descriptorIndex := 20, attributes := #[] }])
  fields := #[{ name := "op", type := (.object "com/example/redoubt/redoubt/Command$Op"), accessFlags := 18, slot := 0, constantValue := 0 }, { name := "key", type := (.object "java/lang/String"), accessFlags := 18, slot := 1, constantValue := 0 }, { name := "value", type := (.array .byte), accessFlags := 18, slot := 2, constantValue := 0 }, { name := "MAX_KEY_BYTES", type := .int, accessFlags := 24, slot := 0, constantValue := 0 }, { name := "MAX_VALUE_BYTES", type := .int, accessFlags := 24, slot := 1, constantValue := 0 }, { name := "MAX_LEASE_TTL", type := .int, accessFlags := 24, slot := 2, constantValue := 0 }, { name := "MAX_KEY_AND_VALUE_BYTES", type := .int, accessFlags := 24, slot := 3, constantValue := 0 }, { name := "NO_VALUE", type := (.array .byte), accessFlags := 26, slot := 4, constantValue := 0 }]
  methods := #[k3m0, k3m1, k3m2, k3m3, k3m4, k3m5, k3m6]
  instanceTypes := #[(.object "com/example/redoubt/redoubt/Command$Op"), (.object "java/lang/String"), (.array .byte)]
  staticTypes := #[.int, .int, .int, .int, (.array .byte)]
  resolved := Array.replicate 242 none
  statics := some 0 }

def pool4 : Array CpInfo := pool [(1, .class_ 2), (0, u "java/lang/constant/Constable"), (0, .class_ 4), (0, u "java/lang/Object")] 6

/-- java/lang/constant/Constable -/
def k4 : Class := { plain "java/lang/constant/Constable" (some 0) with
  accessFlags := 1537
  interfaces := #[]
  cf := some (fileOf pool4 1 #[] #[] 1537 3 #[] #[])
  fields := #[]
  methods := #[]
  instanceTypes := #[]
  staticTypes := #[]
  resolved := Array.replicate 11 none
  statics := none }

def pool5 : Array CpInfo := pool [(1, .class_ 2), (0, u "java/lang/Comparable"), (0, .class_ 4), (0, u "java/lang/Object")] 7

/-- java/lang/Comparable -/
def k5 : Class := { plain "java/lang/Comparable" (some 0) with
  accessFlags := 1537
  interfaces := #[]
  cf := some (fileOf pool5 1 #[] #[] 1537 3 #[] #[])
  fields := #[]
  methods := #[]
  instanceTypes := #[]
  staticTypes := #[]
  resolved := Array.replicate 12 none
  statics := none }

def pool6 : Array CpInfo := pool [(1, .class_ 2), (0, u "java/io/Serializable"), (0, .class_ 4), (0, u "java/lang/Object")] 2

/-- java/io/Serializable -/
def k6 : Class := { plain "java/io/Serializable" (some 0) with
  accessFlags := 1537
  interfaces := #[]
  cf := some (fileOf pool6 1 #[] #[] 1537 3 #[] #[])
  fields := #[]
  methods := #[]
  instanceTypes := #[]
  staticTypes := #[]
  resolved := Array.replicate 7 none
  statics := none }

def pool7 : Array CpInfo := pool [(2, .class_ 4), (1, u "java/lang/Enum"), (0, u "name"), (0, u "Ljava/lang/String;"), (0, .fieldref 2 8), (0, .nameAndType 9 10), (0, u "ordinal"), (0, u "I"), (1, .class_ 14), (1, u "java/lang/Object"), (4, u "hash"), (86, .class_ 108), (1, u "java/lang/Enum$EnumDesc"), (2, .class_ 112), (0, u "java/lang/constant/Constable"), (0, .class_ 114), (0, u "java/lang/Comparable"), (0, .class_ 116), (0, u "java/io/Serializable"), (9, u "()I")] 77

def k7c0 : Code := { maxStack := 1, maxLocals := 1, code := jdk_37_method_2_code, exceptionTable := #[], attributes := #[] }
def k7m0 : Method := { name := "ordinal", desc := "()I", sig := { parameters := [], returnType := some .int }, accessFlags := 17, code := some k7c0 }
/-- java/lang/Enum -/
def k7 : Class := { plain "java/lang/Enum" (some 0) with
  accessFlags := 1057
  interfaces := #[4, 5, 6]
  cf := some (fileOf pool7 2 #[.nestMembers #[106]] #[{ accessFlags := 17, nameIndex := 9, descriptorIndex := 126, attributes := #[] }] 1057 12 #[111, 113, 115] #[{ accessFlags := 18, nameIndex := 5, descriptorIndex := 6, attributes := #[] }, { accessFlags := 18, nameIndex := 9, descriptorIndex := 10, attributes := #[] }, { accessFlags := 2, nameIndex := 19, descriptorIndex := 10, attributes := #[] }])
  fields := #[{ name := "name", type := (.object "java/lang/String"), accessFlags := 18, slot := 0, constantValue := 0 }, { name := "ordinal", type := .int, accessFlags := 18, slot := 1, constantValue := 0 }, { name := "hash", type := .int, accessFlags := 2, slot := 2, constantValue := 0 }]
  methods := #[k7m0]
  instanceTypes := #[(.object "java/lang/String"), .int, .int]
  staticTypes := #[]
  resolved := Array.replicate 204 none
  statics := none }

def pool8 : Array CpInfo := pool [(2, .class_ 4), (1, u "com/example/redoubt/redoubt/Coded"), (2, .class_ 8), (0, u "java/lang/Object")] 11

/-- com/example/redoubt/redoubt/Coded -/
def k8 : Class := { plain "com/example/redoubt/redoubt/Coded" (some 0) with
  accessFlags := 1536
  interfaces := #[]
  cf := some (fileOf pool8 2 #[] #[] 1536 7 #[] #[])
  fields := #[]
  methods := #[]
  instanceTypes := #[]
  staticTypes := #[]
  resolved := Array.replicate 20 none
  statics := none }

def pool9 : Array CpInfo := pool [(1, .class_ 2), (0, u "com/example/redoubt/redoubt/Command$Op"), (2, u "PUT"), (0, u "Lcom/example/redoubt/redoubt/Command$Op;"), (2, u "DELETE"), (2, u "NOOP"), (2, u "TXN"), (2, u "LEASE_GRANT"), (2, u "LEASE_REVOKE"), (2, u "$VALUES"), (0, u "[Lcom/example/redoubt/redoubt/Command$Op;"), (6, .class_ 34), (1, u "java/lang/Enum"), (6, .fieldref 1 42), (0, .nameAndType 43 44), (0, u "code"), (0, u "I"), (13, .class_ 59), (0, u "com/example/redoubt/redoubt/Coded"), (7, u "()I"), (6, .class_ 75), (0, u "com/example/redoubt/redoubt/Command")] 2

def k9c0 : Code := { maxStack := 1, maxLocals := 1, code := prog_10_method_4_code, exceptionTable := #[], attributes := #[] }
def k9m0 : Method := { name := "code", desc := "()I", sig := { parameters := [], returnType := some .int }, accessFlags := 1, code := some k9c0 }
/-- com/example/redoubt/redoubt/Command$Op -/
def k9 : Class := { plain "com/example/redoubt/redoubt/Command$Op" (some 7) with
  accessFlags := 16432
  interfaces := #[8]
  cf := some (fileOf pool9 1 #[.nestHost 74] #[{ accessFlags := 1, nameIndex := 43, descriptorIndex := 67, attributes := #[] }] 16432 32 #[58] #[{ accessFlags := 16409, nameIndex := 5, descriptorIndex := 6, attributes := #[] }, { accessFlags := 16409, nameIndex := 9, descriptorIndex := 6, attributes := #[] }, { accessFlags := 16409, nameIndex := 12, descriptorIndex := 6, attributes := #[] }, { accessFlags := 16409, nameIndex := 15, descriptorIndex := 6, attributes := #[] }, { accessFlags := 16409, nameIndex := 18, descriptorIndex := 6, attributes := #[] }, { accessFlags := 16409, nameIndex := 21, descriptorIndex := 6, attributes := #[] }, { accessFlags := 18, nameIndex := 43, descriptorIndex := 44, attributes := #[] }, { accessFlags := 4122, nameIndex := 24, descriptorIndex := 25, attributes := #[] }])
  fields := #[{ name := "PUT", type := (.object "com/example/redoubt/redoubt/Command$Op"), accessFlags := 16409, slot := 0, constantValue := 0 }, { name := "DELETE", type := (.object "com/example/redoubt/redoubt/Command$Op"), accessFlags := 16409, slot := 1, constantValue := 0 }, { name := "NOOP", type := (.object "com/example/redoubt/redoubt/Command$Op"), accessFlags := 16409, slot := 2, constantValue := 0 }, { name := "TXN", type := (.object "com/example/redoubt/redoubt/Command$Op"), accessFlags := 16409, slot := 3, constantValue := 0 }, { name := "LEASE_GRANT", type := (.object "com/example/redoubt/redoubt/Command$Op"), accessFlags := 16409, slot := 4, constantValue := 0 }, { name := "LEASE_REVOKE", type := (.object "com/example/redoubt/redoubt/Command$Op"), accessFlags := 16409, slot := 5, constantValue := 0 }, { name := "code", type := .int, accessFlags := 18, slot := 3, constantValue := 0 }, { name := "$VALUES", type := (.array (.object "com/example/redoubt/redoubt/Command$Op")), accessFlags := 4122, slot := 6, constantValue := 0 }]
  methods := #[k9m0]
  instanceTypes := #[(.object "java/lang/String"), .int, .int, .int]
  staticTypes := #[(.object "com/example/redoubt/redoubt/Command$Op"), (.object "com/example/redoubt/redoubt/Command$Op"), (.object "com/example/redoubt/redoubt/Command$Op"), (.object "com/example/redoubt/redoubt/Command$Op"), (.object "com/example/redoubt/redoubt/Command$Op"), (.object "com/example/redoubt/redoubt/Command$Op"), (.array (.object "com/example/redoubt/redoubt/Command$Op"))]
  resolved := Array.replicate 78 none
  statics := some 1 }

def pool10 : Array CpInfo := pool [(2, .class_ 4), (1, u "java/lang/CharSequence"), (42, .class_ 48), (0, u "java/lang/CharSequence$1CodePointIterator"), (10, .class_ 60), (0, u "java/lang/CharSequence$1CharIterator"), (5, .class_ 67), (0, u "java/lang/Object")] 63

/-- java/lang/CharSequence -/
def k10 : Class := { plain "java/lang/CharSequence" (some 0) with
  accessFlags := 1537
  interfaces := #[]
  cf := some (fileOf pool10 2 #[.nestMembers #[47, 59]] #[] 1537 66 #[] #[])
  fields := #[]
  methods := #[]
  instanceTypes := #[]
  staticTypes := #[]
  resolved := Array.replicate 131 none
  statics := none }

def pool11 : Array CpInfo := pool [(1, .class_ 2), (0, u "java/lang/constant/ConstantDesc"), (0, .class_ 4), (0, u "java/lang/Object")] 32

/-- java/lang/constant/ConstantDesc -/
def k11 : Class := { plain "java/lang/constant/ConstantDesc" (some 0) with
  accessFlags := 1537
  interfaces := #[]
  cf := some (fileOf pool11 1 #[] #[] 1537 3 #[] #[])
  fields := #[]
  methods := #[]
  instanceTypes := #[]
  staticTypes := #[]
  resolved := Array.replicate 37 none
  statics := none }

def pool12 : Array CpInfo := pool [(2, .class_ 4), (1, u "java/lang/Object"), (0, u "<init>"), (0, u "()V"), (2, .fieldref 10 11), (0, .class_ 12), (0, .nameAndType 13 14), (0, u "java/lang/String"), (0, u "value"), (0, u "[B"), (2, u "coder"), (0, u "B"), (2, u "hash"), (0, u "I"), (2, u "hashIsZero"), (0, u "Z"), (13, u "COMPACT_STRINGS"), (101, u "()Z"), (432, .class_ 576), (0, u "java/lang/CharSequence"), (22, u "CASE_INSENSITIVE_ORDER"), (0, u "Ljava/util/Comparator;"), (91, u "isEmpty"), (408, u "serialPersistentFields"), (0, u "[Ljava/io/ObjectStreamField;"), (0, .class_ 1104), (0, u "java/lang/String$CaseInsensitiveComparator"), (1, .class_ 1107), (0, u "java/io/Serializable"), (0, .class_ 1109), (0, u "java/lang/Comparable"), (0, .class_ 1111), (0, u "java/lang/constant/Constable"), (0, .class_ 1113), (0, u "java/lang/constant/ConstantDesc"), (2, u "serialVersionUID"), (0, u "J"), (3, u "REPL"), (0, u "C"), (2, u "LATIN1"), (1, u "UTF16")] 323

def k12m0 : Method := { name := "<init>", desc := "()V", sig := { parameters := [], returnType := none }, accessFlags := 1, code := none }
def k12c1 : Code := { maxStack := 1, maxLocals := 1, code := jdk_42_method_55_code, exceptionTable := #[], attributes := #[] }
def k12m1 : Method := { name := "isEmpty", desc := "()Z", sig := { parameters := [], returnType := some .boolean }, accessFlags := 1, code := some k12c1 }
/-- java/lang/String -/
def k12 : Class := { plain "java/lang/String" (some 0) with
  accessFlags := 49
  interfaces := #[6, 5, 10, 4, 11]
  cf := some (fileOf pool12 10 #[.nestMembers #[1103]] #[{ accessFlags := 1, nameIndex := 5, descriptorIndex := 6, attributes := #[] }, { accessFlags := 1, nameIndex := 692, descriptorIndex := 142, attributes := #[] }] 49 2 #[1106, 1108, 575, 1110, 1112] #[{ accessFlags := 18, nameIndex := 13, descriptorIndex := 14, attributes := #[] }, { accessFlags := 18, nameIndex := 17, descriptorIndex := 18, attributes := #[] }, { accessFlags := 2, nameIndex := 21, descriptorIndex := 22, attributes := #[] }, { accessFlags := 2, nameIndex := 25, descriptorIndex := 26, attributes := #[] }, { accessFlags := 26, nameIndex := 1116, descriptorIndex := 1117, attributes := #[] }, { accessFlags := 24, nameIndex := 40, descriptorIndex := 26, attributes := #[] }, { accessFlags := 26, nameIndex := 1101, descriptorIndex := 1102, attributes := #[] }, { accessFlags := 26, nameIndex := 1121, descriptorIndex := 1122, attributes := #[] }, { accessFlags := 25, nameIndex := 599, descriptorIndex := 600, attributes := #[] }, { accessFlags := 24, nameIndex := 1125, descriptorIndex := 18, attributes := #[] }, { accessFlags := 24, nameIndex := 1127, descriptorIndex := 18, attributes := #[] }])
  fields := #[{ name := "value", type := (.array .byte), accessFlags := 18, slot := 0, constantValue := 0 }, { name := "coder", type := .byte, accessFlags := 18, slot := 1, constantValue := 0 }, { name := "hash", type := .int, accessFlags := 2, slot := 2, constantValue := 0 }, { name := "hashIsZero", type := .boolean, accessFlags := 2, slot := 3, constantValue := 0 }, { name := "serialVersionUID", type := .long, accessFlags := 26, slot := 0, constantValue := 0 }, { name := "COMPACT_STRINGS", type := .boolean, accessFlags := 24, slot := 1, constantValue := 0 }, { name := "serialPersistentFields", type := (.array (.object "java/io/ObjectStreamField")), accessFlags := 26, slot := 2, constantValue := 0 }, { name := "REPL", type := .char, accessFlags := 26, slot := 3, constantValue := 0 }, { name := "CASE_INSENSITIVE_ORDER", type := (.object "java/util/Comparator"), accessFlags := 25, slot := 4, constantValue := 0 }, { name := "LATIN1", type := .byte, accessFlags := 24, slot := 5, constantValue := 0 }, { name := "UTF16", type := .byte, accessFlags := 24, slot := 6, constantValue := 0 }]
  methods := #[k12m0, k12m1]
  instanceTypes := #[(.array .byte), .byte, .int, .boolean]
  staticTypes := #[.long, .boolean, (.array (.object "java/io/ObjectStreamField")), .char, (.object "java/util/Comparator"), .byte, .byte]
  resolved := Array.replicate 1451 none
  statics := some 2 }

def pool13 : Array CpInfo := pool [(2, .class_ 4), (1, u "java/lang/Record"), (3, .class_ 10), (1, u "com/example/redoubt/redoubt/Transaction$Operation"), (0, u "kind"), (0, u "Lcom/example/redoubt/redoubt/Transaction$Kind;"), (2, u "key"), (0, u "Ljava/lang/String;"), (2, u "value"), (0, u "[B"), (2, u "lease"), (0, u "J"), (16, .class_ 43), (1, u "com/example/redoubt/redoubt/Transaction")] 55

/-- com/example/redoubt/redoubt/Transaction$Operation -/
def k13 : Class := { plain "com/example/redoubt/redoubt/Transaction$Operation" (some 2) with
  accessFlags := 48
  interfaces := #[]
  cf := some (fileOf pool13 8 #[.nestHost 41] #[] 48 2 #[] #[{ accessFlags := 18, nameIndex := 11, descriptorIndex := 12, attributes := #[] }, { accessFlags := 18, nameIndex := 15, descriptorIndex := 16, attributes := #[] }, { accessFlags := 18, nameIndex := 19, descriptorIndex := 20, attributes := #[] }, { accessFlags := 18, nameIndex := 23, descriptorIndex := 24, attributes := #[] }])
  fields := #[{ name := "kind", type := (.object "com/example/redoubt/redoubt/Transaction$Kind"), accessFlags := 18, slot := 0, constantValue := 0 }, { name := "key", type := (.object "java/lang/String"), accessFlags := 18, slot := 1, constantValue := 0 }, { name := "value", type := (.array .byte), accessFlags := 18, slot := 2, constantValue := 0 }, { name := "lease", type := .long, accessFlags := 18, slot := 3, constantValue := 0 }]
  methods := #[]
  instanceTypes := #[(.object "com/example/redoubt/redoubt/Transaction$Kind"), (.object "java/lang/String"), (.array .byte), .long]
  staticTypes := #[]
  resolved := Array.replicate 99 none
  statics := none }

def pool14 : Array CpInfo := pool [(3, .class_ 4), (0, u "com/example/redoubt/redoubt/Transaction"), (0, .methodref 6 7), (0, .class_ 8), (0, .nameAndType 9 10), (0, u "java/lang/Record"), (0, u "<init>"), (0, u "()V"), (0, .interfaceMethodref 12 13), (0, .class_ 14), (0, .nameAndType 15 16), (0, u "java/util/List"), (0, u "copyOf"), (0, u "(Ljava/util/Collection;)Ljava/util/List;"), (0, .fieldref 3 18), (0, .nameAndType 19 20), (0, u "compares"), (0, u "Ljava/util/List;"), (0, .fieldref 3 22), (0, .nameAndType 23 20), (0, u "success"), (0, .fieldref 3 25), (0, .nameAndType 26 20), (0, u "failure"), (0, .interfaceMethodref 12 28), (0, .nameAndType 29 30), (0, u "of"), (0, u "()Ljava/util/List;"), (0, .interfaceMethodref 12 32), (0, .nameAndType 29 33), (0, u "([Ljava/lang/Object;)Ljava/util/List;"), (0, .methodref 3 35), (0, .nameAndType 9 36), (0, u "(Ljava/util/List;Ljava/util/List;Ljava/util/List;)V"), (23, .class_ 61), (0, u "com/example/redoubt/redoubt/Transaction$Compare"), (12, .class_ 75), (0, u "com/example/redoubt/redoubt/Transaction$Operation"), (7, .class_ 85), (1, u "com/example/redoubt/redoubt/Transaction$Flaw"), (30, .class_ 118), (1, u "com/example/redoubt/redoubt/Transaction$Test"), (75, .class_ 195), (0, u "com/example/redoubt/redoubt/Transaction$Kind"), (148, u "NO_VALUE"), (0, u "[B"), (3, u "MAX_COMPARES"), (0, u "I"), (2, u "MAX_OPERATIONS"), (0, u "MAX_VALUES_BYTES"), (1, u "MAX_RESULT_BYTES"), (1, u "MAX_ENCODED_BYTES"), (1, u "FORM_VERSION"), (5, u "([Lcom/example/redoubt/redoubt/Transaction$Operation;)Lcom/example/redoubt/redoubt/Transaction;")] 61

def k14c0 : Code := { maxStack := 2, maxLocals := 4, code := prog_57_method_1_code, exceptionTable := #[], attributes := #[] }
def k14m0 : Method := { name := "<init>", desc := "(Ljava/util/List;Ljava/util/List;Ljava/util/List;)V", sig := { parameters := [(.object "java/util/List"), (.object "java/util/List"), (.object "java/util/List")], returnType := none }, accessFlags := 0, code := some k14c0 }
def k14c1 : Code := { maxStack := 5, maxLocals := 1, code := prog_57_method_2_code, exceptionTable := #[], attributes := #[] }
def k14m1 : Method := { name := "of", desc := "([Lcom/example/redoubt/redoubt/Transaction$Operation;)Lcom/example/redoubt/redoubt/Transaction;", sig := { parameters := [(.array (.object "com/example/redoubt/redoubt/Transaction$Operation"))], returnType := some (.object "com/example/redoubt/redoubt/Transaction") }, accessFlags := 136, code := some k14c1 }
def k14c2 : Code := { maxStack := 1, maxLocals := 1, code := prog_57_method_17_code, exceptionTable := #[], attributes := #[] }
def k14m2 : Method := { name := "compares", desc := "()Ljava/util/List;", sig := { parameters := [], returnType := some (.object "java/util/List") }, accessFlags := 1, code := some k14c2 }
def k14c3 : Code := { maxStack := 1, maxLocals := 1, code := prog_57_method_18_code, exceptionTable := #[], attributes := #[] }
def k14m3 : Method := { name := "success", desc := "()Ljava/util/List;", sig := { parameters := [], returnType := some (.object "java/util/List") }, accessFlags := 1, code := some k14c3 }
def k14c4 : Code := { maxStack := 1, maxLocals := 1, code := prog_57_method_19_code, exceptionTable := #[], attributes := #[] }
def k14m4 : Method := { name := "failure", desc := "()Ljava/util/List;", sig := { parameters := [], returnType := some (.object "java/util/List") }, accessFlags := 1, code := some k14c4 }
/-- com/example/redoubt/redoubt/Transaction -/
def k14 : Class := { plain "com/example/redoubt/redoubt/Transaction" (some 2) with
  accessFlags := 48
  interfaces := #[]
  cf := some (fileOf pool14 3 #[.nestMembers #[74, 60, 194, 116, 83]] #[{ accessFlags := 0, nameIndex := 9, descriptorIndex := 36, attributes := #[] }, { accessFlags := 136, nameIndex := 29, descriptorIndex := 366, attributes := #[] }, { accessFlags := 1, nameIndex := 19, descriptorIndex := 30, attributes := #[] }, { accessFlags := 1, nameIndex := 23, descriptorIndex := 30, attributes := #[] }, { accessFlags := 1, nameIndex := 26, descriptorIndex := 30, attributes := #[] }] 48 6 #[] #[{ accessFlags := 18, nameIndex := 19, descriptorIndex := 20, attributes := #[] }, { accessFlags := 18, nameIndex := 23, descriptorIndex := 20, attributes := #[] }, { accessFlags := 18, nameIndex := 26, descriptorIndex := 20, attributes := #[] }, { accessFlags := 24, nameIndex := 349, descriptorIndex := 350, attributes := #[] }, { accessFlags := 24, nameIndex := 353, descriptorIndex := 350, attributes := #[] }, { accessFlags := 24, nameIndex := 354, descriptorIndex := 350, attributes := #[] }, { accessFlags := 24, nameIndex := 356, descriptorIndex := 350, attributes := #[] }, { accessFlags := 24, nameIndex := 358, descriptorIndex := 350, attributes := #[] }, { accessFlags := 26, nameIndex := 360, descriptorIndex := 350, attributes := #[] }, { accessFlags := 26, nameIndex := 344, descriptorIndex := 345, attributes := #[] }])
  fields := #[{ name := "compares", type := (.object "java/util/List"), accessFlags := 18, slot := 0, constantValue := 0 }, { name := "success", type := (.object "java/util/List"), accessFlags := 18, slot := 1, constantValue := 0 }, { name := "failure", type := (.object "java/util/List"), accessFlags := 18, slot := 2, constantValue := 0 }, { name := "MAX_COMPARES", type := .int, accessFlags := 24, slot := 0, constantValue := 0 }, { name := "MAX_OPERATIONS", type := .int, accessFlags := 24, slot := 1, constantValue := 0 }, { name := "MAX_VALUES_BYTES", type := .int, accessFlags := 24, slot := 2, constantValue := 0 }, { name := "MAX_RESULT_BYTES", type := .int, accessFlags := 24, slot := 3, constantValue := 0 }, { name := "MAX_ENCODED_BYTES", type := .int, accessFlags := 24, slot := 4, constantValue := 0 }, { name := "FORM_VERSION", type := .int, accessFlags := 26, slot := 5, constantValue := 0 }, { name := "NO_VALUE", type := (.array .byte), accessFlags := 26, slot := 6, constantValue := 0 }]
  methods := #[k14m0, k14m1, k14m2, k14m3, k14m4]
  instanceTypes := #[(.object "java/util/List"), (.object "java/util/List"), (.object "java/util/List")]
  staticTypes := #[.int, .int, .int, .int, .int, .int, (.array .byte)]
  resolved := Array.replicate 428 none
  statics := none }

def pool15 : Array CpInfo := pool [(8, .class_ 10), (1, u "java/lang/Iterable"), (24, .class_ 36), (0, u "java/lang/Object")] 25

/-- java/lang/Iterable -/
def k15 : Class := { plain "java/lang/Iterable" (some 0) with
  accessFlags := 1537
  interfaces := #[]
  cf := some (fileOf pool15 8 #[] #[] 1537 35 #[] #[])
  fields := #[]
  methods := #[]
  instanceTypes := #[]
  staticTypes := #[]
  resolved := Array.replicate 62 none
  statics := none }

def pool16 : Array CpInfo := pool [(10, .class_ 12), (1, u "java/util/Collection"), (47, .class_ 61), (0, u "java/lang/Object"), (0, .class_ 63), (0, u "java/lang/Iterable")] 51

/-- java/util/Collection -/
def k16 : Class := { plain "java/util/Collection" (some 0) with
  accessFlags := 1537
  interfaces := #[15]
  cf := some (fileOf pool16 10 #[] #[] 1537 60 #[62] #[])
  fields := #[]
  methods := #[]
  instanceTypes := #[]
  staticTypes := #[]
  resolved := Array.replicate 115 none
  statics := none }

def pool17 : Array CpInfo := pool [(8, .class_ 10), (1, u "java/util/SequencedCollection"), (15, .class_ 27), (0, u "java/lang/Object"), (0, .class_ 29), (0, u "java/util/Collection")] 27

/-- java/util/SequencedCollection -/
def k17 : Class := { plain "java/util/SequencedCollection" (some 0) with
  accessFlags := 1537
  interfaces := #[16]
  cf := some (fileOf pool17 8 #[] #[] 1537 26 #[28] #[])
  fields := #[]
  methods := #[]
  instanceTypes := #[]
  staticTypes := #[]
  resolved := Array.replicate 57 none
  statics := none }

def pool18 : Array CpInfo := pool [(8, .class_ 10), (1, u "java/util/List"), (68, u "size"), (0, u "()I"), (7, u "of"), (1, .fieldref 91 92), (0, .class_ 93), (0, .nameAndType 94 95), (0, u "java/util/ImmutableCollections"), (0, u "EMPTY_LIST"), (0, u "Ljava/util/ImmutableCollections$ListN;"), (7, .class_ 104), (0, u "java/lang/Object"), (3, u "([Ljava/lang/Object;)Ljava/util/List;"), (3, .methodref 91 113), (0, .nameAndType 114 115), (0, u "listCopy"), (0, u "(Ljava/util/Collection;)Ljava/util/List;"), (3, u "()Ljava/util/List;"), (0, .class_ 121), (0, u "java/util/SequencedCollection"), (112, u "copyOf")] 16

def k18m0 : Method := { name := "size", desc := "()I", sig := { parameters := [], returnType := some .int }, accessFlags := 1025, code := none }
def k18c1 : Code := { maxStack := 1, maxLocals := 0, code := jdk_40_method_36_code, exceptionTable := #[], attributes := #[] }
def k18m1 : Method := { name := "of", desc := "()Ljava/util/List;", sig := { parameters := [], returnType := some (.object "java/util/List") }, accessFlags := 9, code := some k18c1 }
def k18c2 : Code := { maxStack := 5, maxLocals := 2, code := jdk_40_method_47_code, exceptionTable := #[], attributes := #[] }
def k18m2 : Method := { name := "of", desc := "([Ljava/lang/Object;)Ljava/util/List;", sig := { parameters := [(.array (.object "java/lang/Object"))], returnType := some (.object "java/util/List") }, accessFlags := 137, code := some k18c2 }
def k18c3 : Code := { maxStack := 1, maxLocals := 1, code := jdk_40_method_48_code, exceptionTable := #[], attributes := #[] }
def k18m3 : Method := { name := "copyOf", desc := "(Ljava/util/Collection;)Ljava/util/List;", sig := { parameters := [(.object "java/util/Collection")], returnType := some (.object "java/util/List") }, accessFlags := 9, code := some k18c3 }
/-- java/util/List -/
def k18 : Class := { plain "java/util/List" (some 0) with
  accessFlags := 1537
  interfaces := #[17]
  cf := some (fileOf pool18 8 #[] #[{ accessFlags := 1025, nameIndex := 79, descriptorIndex := 80, attributes := #[] }, { accessFlags := 9, nameIndex := 88, descriptorIndex := 119, attributes := #[] }, { accessFlags := 137, nameIndex := 88, descriptorIndex := 108, attributes := #[] }, { accessFlags := 9, nameIndex := 234, descriptorIndex := 115, attributes := #[] }] 1537 103 #[120] #[])
  fields := #[]
  methods := #[k18m0, k18m1, k18m2, k18m3]
  instanceTypes := #[]
  staticTypes := #[]
  resolved := Array.replicate 251 none
  statics := none }

def pool19 : Array CpInfo := pool [(2, .class_ 4), (1, u "java/lang/Object"), (0, u "<init>"), (0, u "()V"), (3, .class_ 11), (0, u "java/util/ImmutableCollections$List12"), (0, .class_ 13), (0, u "java/util/ImmutableCollections$ListN"), (0, .fieldref 12 15), (0, .nameAndType 16 17), (0, u "allowNulls"), (0, u "Z"), (0, .class_ 19), (0, u "java/util/List"), (27, .class_ 49), (1, u "java/util/ImmutableCollections"), (0, u "$assertionsDisabled"), (5, u "[Ljava/lang/Object;"), (5, u "EMPTY_LIST"), (0, u "Ljava/util/ImmutableCollections$ListN;"), (8, u "EMPTY_LIST_NULLS"), (22, u "SALT32L"), (0, u "J"), (2, u "REVERSE"), (6, u "archivedObjects"), (2, u "EMPTY"), (0, u "Ljava/lang/Object;"), (0, .class_ 112), (0, u "java/util/ImmutableCollections$SetN"), (5, u "EMPTY_SET"), (0, u "Ljava/util/ImmutableCollections$SetN;"), (0, .class_ 121), (0, u "java/util/ImmutableCollections$MapN"), (3, u "EMPTY_MAP"), (0, u "Ljava/util/ImmutableCollections$MapN;"), (4, u "EXPAND_FACTOR"), (0, u "I"), (9, u "listCopy"), (0, u "(Ljava/util/Collection;)Ljava/util/List;"), (25, .class_ 170), (0, u "java/util/ImmutableCollections$MapN$MapNIterator"), (0, .class_ 172), (0, u "java/util/ImmutableCollections$MapN$1"), (0, .class_ 174), (0, u "java/util/ImmutableCollections$Map1"), (0, .class_ 176), (0, u "java/util/ImmutableCollections$AbstractImmutableMap"), (0, .class_ 178), (0, u "java/util/ImmutableCollections$SetN$SetNIterator"), (0, .class_ 180), (0, u "java/util/ImmutableCollections$Set12"), (0, .class_ 182), (0, u "java/util/ImmutableCollections$Set12$1"), (0, .class_ 184), (0, u "java/util/ImmutableCollections$AbstractImmutableSet"), (0, .class_ 186), (0, u "java/util/ImmutableCollections$SubList"), (0, .class_ 188), (0, u "java/util/ImmutableCollections$ListItr"), (0, .class_ 190), (0, u "java/util/ImmutableCollections$AbstractImmutableList"), (0, .class_ 192), (0, u "java/util/ImmutableCollections$AbstractImmutableCollection"), (0, .class_ 194), (0, u "java/util/ImmutableCollections$Access"), (0, .class_ 196), (0, u "java/util/ImmutableCollections$Access$1")] 16

def k19m0 : Method := { name := "<init>", desc := "()V", sig := { parameters := [], returnType := none }, accessFlags := 2, code := none }
def k19c1 : Code := { maxStack := 1, maxLocals := 2, code := jdk_56_method_3_code, exceptionTable := #[], attributes := #[] }
def k19m1 : Method := { name := "listCopy", desc := "(Ljava/util/Collection;)Ljava/util/List;", sig := { parameters := [(.object "java/util/Collection")], returnType := some (.object "java/util/List") }, accessFlags := 8, code := some k19c1 }
/-- java/util/ImmutableCollections -/
def k19 : Class := { plain "java/util/ImmutableCollections" (some 0) with
  accessFlags := 32
  interfaces := #[]
  cf := some (fileOf pool19 47 #[.nestMembers #[120, 169, 171, 173, 175, 111, 177, 179, 181, 183, 12, 10, 185, 187, 189, 191, 193, 195]] #[{ accessFlags := 2, nameIndex := 5, descriptorIndex := 6, attributes := #[] }, { accessFlags := 8, nameIndex := 142, descriptorIndex := 143, attributes := #[] }] 32 2 #[] #[{ accessFlags := 26, nameIndex := 95, descriptorIndex := 96, attributes := #[] }, { accessFlags := 26, nameIndex := 99, descriptorIndex := 17, attributes := #[] }, { accessFlags := 10, nameIndex := 106, descriptorIndex := 56, attributes := #[] }, { accessFlags := 26, nameIndex := 109, descriptorIndex := 110, attributes := #[] }, { accessFlags := 24, nameIndex := 62, descriptorIndex := 63, attributes := #[] }, { accessFlags := 24, nameIndex := 72, descriptorIndex := 63, attributes := #[] }, { accessFlags := 24, nameIndex := 118, descriptorIndex := 119, attributes := #[] }, { accessFlags := 24, nameIndex := 125, descriptorIndex := 126, attributes := #[] }, { accessFlags := 24, nameIndex := 131, descriptorIndex := 132, attributes := #[] }, { accessFlags := 4120, nameIndex := 50, descriptorIndex := 17, attributes := #[] }])
  fields := #[{ name := "SALT32L", type := .long, accessFlags := 26, slot := 0, constantValue := 0 }, { name := "REVERSE", type := .boolean, accessFlags := 26, slot := 1, constantValue := 0 }, { name := "archivedObjects", type := (.array (.object "java/lang/Object")), accessFlags := 10, slot := 2, constantValue := 0 }, { name := "EMPTY", type := (.object "java/lang/Object"), accessFlags := 26, slot := 3, constantValue := 0 }, { name := "EMPTY_LIST", type := (.object "java/util/ImmutableCollections$ListN"), accessFlags := 24, slot := 4, constantValue := 0 }, { name := "EMPTY_LIST_NULLS", type := (.object "java/util/ImmutableCollections$ListN"), accessFlags := 24, slot := 5, constantValue := 0 }, { name := "EMPTY_SET", type := (.object "java/util/ImmutableCollections$SetN"), accessFlags := 24, slot := 6, constantValue := 0 }, { name := "EMPTY_MAP", type := (.object "java/util/ImmutableCollections$MapN"), accessFlags := 24, slot := 7, constantValue := 0 }, { name := "EXPAND_FACTOR", type := .int, accessFlags := 24, slot := 8, constantValue := 0 }, { name := "$assertionsDisabled", type := .boolean, accessFlags := 4120, slot := 9, constantValue := 0 }]
  methods := #[k19m0, k19m1]
  instanceTypes := #[]
  staticTypes := #[.long, .boolean, (.array (.object "java/lang/Object")), (.object "java/lang/Object"), (.object "java/util/ImmutableCollections$ListN"), (.object "java/util/ImmutableCollections$ListN"), (.object "java/util/ImmutableCollections$SetN"), (.object "java/util/ImmutableCollections$MapN"), .int, .boolean]
  resolved := Array.replicate 213 none
  statics := some 3 }

def pool20 : Array CpInfo := pool [(2, .class_ 4), (1, u "java/lang/Object"), (0, u "<init>"), (0, u "()V"), (1, .class_ 10), (1, u "java/util/AbstractCollection"), (66, .class_ 78), (0, u "java/util/Collection")] 81

def k20m0 : Method := { name := "<init>", desc := "()V", sig := { parameters := [], returnType := none }, accessFlags := 4, code := none }
/-- java/util/AbstractCollection -/
def k20 : Class := { plain "java/util/AbstractCollection" (some 0) with
  accessFlags := 1057
  interfaces := #[16]
  cf := some (fileOf pool20 8 #[] #[{ accessFlags := 4, nameIndex := 5, descriptorIndex := 6, attributes := #[] }] 1057 2 #[77] #[])
  fields := #[]
  methods := #[k20m0]
  instanceTypes := #[]
  staticTypes := #[]
  resolved := Array.replicate 160 none
  statics := none }

def pool21 : Array CpInfo := pool [(2, .class_ 4), (1, u "java/util/AbstractCollection"), (0, u "<init>"), (0, u "()V"), (1, .class_ 10), (1, u "java/util/ImmutableCollections"), (2, .class_ 14), (0, u "java/util/ImmutableCollections$AbstractImmutableCollection")] 41

def k21m0 : Method := { name := "<init>", desc := "()V", sig := { parameters := [], returnType := none }, accessFlags := 0, code := none }
/-- java/util/ImmutableCollections$AbstractImmutableCollection -/
def k21 : Class := { plain "java/util/ImmutableCollections$AbstractImmutableCollection" (some 20) with
  accessFlags := 1056
  interfaces := #[]
  cf := some (fileOf pool21 13 #[.nestHost 8] #[{ accessFlags := 0, nameIndex := 5, descriptorIndex := 6, attributes := #[] }] 1056 2 #[] #[])
  fields := #[]
  methods := #[k21m0]
  instanceTypes := #[]
  staticTypes := #[]
  resolved := Array.replicate 56 none
  statics := none }

def pool22 : Array CpInfo := pool [(1, .class_ 2), (0, u "java/util/RandomAccess"), (0, .class_ 4), (0, u "java/lang/Object")] 2

/-- java/util/RandomAccess -/
def k22 : Class := { plain "java/util/RandomAccess" (some 0) with
  accessFlags := 1537
  interfaces := #[]
  cf := some (fileOf pool22 1 #[] #[] 1537 3 #[] #[])
  fields := #[]
  methods := #[]
  instanceTypes := #[]
  staticTypes := #[]
  resolved := Array.replicate 7 none
  statics := none }

def pool23 : Array CpInfo := pool [(2, .class_ 4), (1, u "java/util/ImmutableCollections$AbstractImmutableCollection"), (0, u "<init>"), (0, u "()V"), (1, .class_ 10), (1, u "java/util/ImmutableCollections"), (3, .class_ 16), (1, u "java/util/ImmutableCollections$AbstractImmutableList"), (60, .class_ 78), (0, u "java/util/List"), (45, .class_ 125), (0, u "java/util/RandomAccess")] 70

def k23m0 : Method := { name := "<init>", desc := "()V", sig := { parameters := [], returnType := none }, accessFlags := 0, code := none }
/-- java/util/ImmutableCollections$AbstractImmutableList -/
def k23 : Class := { plain "java/util/ImmutableCollections$AbstractImmutableList" (some 21) with
  accessFlags := 1056
  interfaces := #[18, 22]
  cf := some (fileOf pool23 14 #[.nestHost 8] #[{ accessFlags := 0, nameIndex := 5, descriptorIndex := 6, attributes := #[] }] 1056 2 #[77, 124] #[])
  fields := #[]
  methods := #[k23m0]
  instanceTypes := #[]
  staticTypes := #[]
  resolved := Array.replicate 196 none
  statics := none }

def pool24 : Array CpInfo := pool [(2, .class_ 4), (1, u "java/util/ImmutableCollections$AbstractImmutableList"), (9, .class_ 16), (1, u "java/util/ImmutableCollections$List12"), (0, u "e0"), (0, u "Ljava/lang/Object;"), (1, .class_ 22), (1, u "java/util/ImmutableCollections"), (3, u "e1"), (43, .class_ 71), (0, u "java/io/Serializable")] 53

/-- java/util/ImmutableCollections$List12 -/
def k24 : Class := { plain "java/util/ImmutableCollections$List12" (some 23) with
  accessFlags := 48
  interfaces := #[6]
  cf := some (fileOf pool24 14 #[.nestHost 20] #[] 48 2 #[70] #[{ accessFlags := 18, nameIndex := 17, descriptorIndex := 18, attributes := #[] }, { accessFlags := 18, nameIndex := 26, descriptorIndex := 18, attributes := #[] }])
  fields := #[{ name := "e0", type := (.object "java/lang/Object"), accessFlags := 18, slot := 0, constantValue := 0 }, { name := "e1", type := (.object "java/lang/Object"), accessFlags := 18, slot := 1, constantValue := 0 }]
  methods := #[]
  instanceTypes := #[(.object "java/lang/Object"), (.object "java/lang/Object")]
  staticTypes := #[]
  resolved := Array.replicate 125 none
  statics := none }

def pool25 : Array CpInfo := pool [(2, .class_ 4), (1, u "java/util/ImmutableCollections$AbstractImmutableList"), (2, .fieldref 8 9), (0, .class_ 10), (0, .nameAndType 11 12), (0, u "java/util/ImmutableCollections$ListN"), (0, u "elements"), (0, u "[Ljava/lang/Object;"), (2, u "allowNulls"), (0, u "Z"), (42, .class_ 60), (0, u "java/io/Serializable"), (16, u "size"), (0, u "()I"), (35, .class_ 115), (0, u "java/util/ImmutableCollections")] 3

def k25c0 : Code := { maxStack := 1, maxLocals := 1, code := jdk_45_method_3_code, exceptionTable := #[], attributes := #[] }
def k25m0 : Method := { name := "size", desc := "()I", sig := { parameters := [], returnType := some .int }, accessFlags := 1, code := some k25c0 }
/-- java/util/ImmutableCollections$ListN -/
def k25 : Class := { plain "java/util/ImmutableCollections$ListN" (some 23) with
  accessFlags := 48
  interfaces := #[6]
  cf := some (fileOf pool25 8 #[.nestHost 114] #[{ accessFlags := 1, nameIndex := 77, descriptorIndex := 78, attributes := #[] }] 48 2 #[59] #[{ accessFlags := 18, nameIndex := 11, descriptorIndex := 12, attributes := #[] }, { accessFlags := 18, nameIndex := 15, descriptorIndex := 16, attributes := #[] }])
  fields := #[{ name := "elements", type := (.array (.object "java/lang/Object")), accessFlags := 18, slot := 0, constantValue := 0 }, { name := "allowNulls", type := .boolean, accessFlags := 18, slot := 1, constantValue := 0 }]
  methods := #[k25m0]
  instanceTypes := #[(.array (.object "java/lang/Object")), .boolean]
  staticTypes := #[]
  resolved := Array.replicate 119 none
  statics := none }

def pool26 : Array CpInfo := pool [(4, .class_ 6), (1, u "java/lang/Object"), (0, u "<init>"), (0, u "()V"), (5, .class_ 16), (1, u "java/lang/StringLatin1"), (104, u "$assertionsDisabled"), (0, u "Z"), (98, .class_ 223), (1, u "java/lang/StringLatin1$LinesSpliterator"), (166, .class_ 391), (0, u "java/lang/StringLatin1$CharsSpliterator")] 3

def k26m0 : Method := { name := "<init>", desc := "()V", sig := { parameters := [], returnType := none }, accessFlags := 0, code := none }
/-- java/lang/StringLatin1 -/
def k26 : Class := { plain "java/lang/StringLatin1" (some 0) with
  accessFlags := 48
  interfaces := #[]
  cf := some (fileOf pool26 14 #[.nestMembers #[390, 221]] #[{ accessFlags := 0, nameIndex := 7, descriptorIndex := 8, attributes := #[] }] 48 4 #[] #[{ accessFlags := 4120, nameIndex := 121, descriptorIndex := 122, attributes := #[] }])
  fields := #[{ name := "$assertionsDisabled", type := .boolean, accessFlags := 4120, slot := 0, constantValue := 0 }]
  methods := #[k26m0]
  instanceTypes := #[]
  staticTypes := #[.boolean]
  resolved := Array.replicate 395 none
  statics := none }

def pool27 : Array CpInfo := pool [(2, .class_ 4), (1, u "java/lang/Object"), (0, u "<init>"), (0, u "()V"), (17, .class_ 26), (1, u "jdk/internal/util/Preconditions"), (28, .class_ 56), (0, u "jdk/internal/util/Preconditions$4"), (57, .class_ 115), (0, u "jdk/internal/util/Preconditions$1"), (7, u "SIOOBE_FORMATTER"), (0, u "Ljava/util/function/BiFunction;"), (0, .class_ 126), (0, u "jdk/internal/util/Preconditions$2"), (3, u "AIOOBE_FORMATTER"), (0, .class_ 132), (0, u "jdk/internal/util/Preconditions$3"), (3, u "IOOBE_FORMATTER")] 57

def k27m0 : Method := { name := "<init>", desc := "()V", sig := { parameters := [], returnType := none }, accessFlags := 1, code := none }
/-- jdk/internal/util/Preconditions -/
def k27 : Class := { plain "jdk/internal/util/Preconditions" (some 0) with
  accessFlags := 33
  interfaces := #[]
  cf := some (fileOf pool27 24 #[.nestMembers #[55, 131, 125, 114]] #[{ accessFlags := 1, nameIndex := 5, descriptorIndex := 6, attributes := #[] }] 33 2 #[] #[{ accessFlags := 25, nameIndex := 123, descriptorIndex := 124, attributes := #[] }, { accessFlags := 25, nameIndex := 130, descriptorIndex := 124, attributes := #[] }, { accessFlags := 25, nameIndex := 136, descriptorIndex := 124, attributes := #[] }])
  fields := #[{ name := "SIOOBE_FORMATTER", type := (.object "java/util/function/BiFunction"), accessFlags := 25, slot := 0, constantValue := 0 }, { name := "AIOOBE_FORMATTER", type := (.object "java/util/function/BiFunction"), accessFlags := 25, slot := 1, constantValue := 0 }, { name := "IOOBE_FORMATTER", type := (.object "java/util/function/BiFunction"), accessFlags := 25, slot := 2, constantValue := 0 }]
  methods := #[k27m0]
  instanceTypes := #[]
  staticTypes := #[(.object "java/util/function/BiFunction"), (.object "java/util/function/BiFunction"), (.object "java/util/function/BiFunction")]
  resolved := Array.replicate 194 none
  statics := some 4 }

def pool28 : Array CpInfo := pool [(9, u "<init>"), (6, .class_ 18), (1, u "java/lang/Object"), (0, u "()V"), (1, .class_ 23), (1, u "jdk/internal/util/ArraysSupport"), (0, u "LOG2_ARRAY_LONG_INDEX_SCALE"), (0, u "I"), (2, u "U"), (0, u "Ljdk/internal/misc/Unsafe;"), (8, u "BIG_ENDIAN"), (0, u "Z"), (8, u "LOG2_BYTE_BIT_SIZE"), (4, u "LOG2_ARRAY_INT_INDEX_SCALE"), (54, u "JLA"), (0, u "Ljdk/internal/access/JavaLangAccess;"), (11, u "LOG2_ARRAY_BOOLEAN_INDEX_SCALE"), (9, u "LOG2_ARRAY_BYTE_INDEX_SCALE"), (5, u "LOG2_ARRAY_CHAR_INDEX_SCALE"), (5, u "LOG2_ARRAY_SHORT_INDEX_SCALE"), (18, u "LOG2_ARRAY_FLOAT_INDEX_SCALE"), (24, u "LOG2_ARRAY_DOUBLE_INDEX_SCALE"), (89, u "T_BOOLEAN"), (2, u "T_CHAR"), (1, u "T_FLOAT"), (1, u "T_DOUBLE"), (1, u "T_BYTE"), (1, u "T_SHORT"), (1, u "T_INT"), (1, u "T_LONG"), (1, u "SOFT_MAX_ARRAY_LENGTH")] 83

def k28m0 : Method := { name := "<init>", desc := "()V", sig := { parameters := [], returnType := none }, accessFlags := 2, code := none }
/-- jdk/internal/util/ArraysSupport -/
def k28 : Class := { plain "jdk/internal/util/ArraysSupport" (some 0) with
  accessFlags := 33
  interfaces := #[]
  cf := some (fileOf pool28 21 #[] #[{ accessFlags := 2, nameIndex := 9, descriptorIndex := 19, attributes := #[] }] 33 16 #[] #[{ accessFlags := 24, nameIndex := 28, descriptorIndex := 29, attributes := #[] }, { accessFlags := 26, nameIndex := 38, descriptorIndex := 39, attributes := #[] }, { accessFlags := 25, nameIndex := 121, descriptorIndex := 25, attributes := #[] }, { accessFlags := 25, nameIndex := 131, descriptorIndex := 25, attributes := #[] }, { accessFlags := 25, nameIndex := 137, descriptorIndex := 25, attributes := #[] }, { accessFlags := 25, nameIndex := 143, descriptorIndex := 25, attributes := #[] }, { accessFlags := 25, nameIndex := 53, descriptorIndex := 25, attributes := #[] }, { accessFlags := 25, nameIndex := 24, descriptorIndex := 25, attributes := #[] }, { accessFlags := 25, nameIndex := 162, descriptorIndex := 25, attributes := #[] }, { accessFlags := 25, nameIndex := 187, descriptorIndex := 25, attributes := #[] }, { accessFlags := 26, nameIndex := 48, descriptorIndex := 25, attributes := #[] }, { accessFlags := 25, nameIndex := 277, descriptorIndex := 25, attributes := #[] }, { accessFlags := 25, nameIndex := 280, descriptorIndex := 25, attributes := #[] }, { accessFlags := 25, nameIndex := 282, descriptorIndex := 25, attributes := #[] }, { accessFlags := 25, nameIndex := 284, descriptorIndex := 25, attributes := #[] }, { accessFlags := 25, nameIndex := 286, descriptorIndex := 25, attributes := #[] }, { accessFlags := 25, nameIndex := 288, descriptorIndex := 25, attributes := #[] }, { accessFlags := 25, nameIndex := 290, descriptorIndex := 25, attributes := #[] }, { accessFlags := 25, nameIndex := 292, descriptorIndex := 25, attributes := #[] }, { accessFlags := 26, nameIndex := 108, descriptorIndex := 109, attributes := #[] }, { accessFlags := 25, nameIndex := 294, descriptorIndex := 25, attributes := #[] }])
  fields := #[{ name := "U", type := (.object "jdk/internal/misc/Unsafe"), accessFlags := 24, slot := 0, constantValue := 0 }, { name := "BIG_ENDIAN", type := .boolean, accessFlags := 26, slot := 1, constantValue := 0 }, { name := "LOG2_ARRAY_BOOLEAN_INDEX_SCALE", type := .int, accessFlags := 25, slot := 2, constantValue := 0 }, { name := "LOG2_ARRAY_BYTE_INDEX_SCALE", type := .int, accessFlags := 25, slot := 3, constantValue := 0 }, { name := "LOG2_ARRAY_CHAR_INDEX_SCALE", type := .int, accessFlags := 25, slot := 4, constantValue := 0 }, { name := "LOG2_ARRAY_SHORT_INDEX_SCALE", type := .int, accessFlags := 25, slot := 5, constantValue := 0 }, { name := "LOG2_ARRAY_INT_INDEX_SCALE", type := .int, accessFlags := 25, slot := 6, constantValue := 0 }, { name := "LOG2_ARRAY_LONG_INDEX_SCALE", type := .int, accessFlags := 25, slot := 7, constantValue := 0 }, { name := "LOG2_ARRAY_FLOAT_INDEX_SCALE", type := .int, accessFlags := 25, slot := 8, constantValue := 0 }, { name := "LOG2_ARRAY_DOUBLE_INDEX_SCALE", type := .int, accessFlags := 25, slot := 9, constantValue := 0 }, { name := "LOG2_BYTE_BIT_SIZE", type := .int, accessFlags := 26, slot := 10, constantValue := 0 }, { name := "T_BOOLEAN", type := .int, accessFlags := 25, slot := 11, constantValue := 0 }, { name := "T_CHAR", type := .int, accessFlags := 25, slot := 12, constantValue := 0 }, { name := "T_FLOAT", type := .int, accessFlags := 25, slot := 13, constantValue := 0 }, { name := "T_DOUBLE", type := .int, accessFlags := 25, slot := 14, constantValue := 0 }, { name := "T_BYTE", type := .int, accessFlags := 25, slot := 15, constantValue := 0 }, { name := "T_SHORT", type := .int, accessFlags := 25, slot := 16, constantValue := 0 }, { name := "T_INT", type := .int, accessFlags := 25, slot := 17, constantValue := 0 }, { name := "T_LONG", type := .int, accessFlags := 25, slot := 18, constantValue := 0 }, { name := "JLA", type := (.object "jdk/internal/access/JavaLangAccess"), accessFlags := 26, slot := 19, constantValue := 0 }, { name := "SOFT_MAX_ARRAY_LENGTH", type := .int, accessFlags := 25, slot := 20, constantValue := 0 }]
  methods := #[k28m0]
  instanceTypes := #[]
  staticTypes := #[(.object "jdk/internal/misc/Unsafe"), .boolean, .int, .int, .int, .int, .int, .int, .int, .int, .int, .int, .int, .int, .int, .int, .int, .int, .int, (.object "jdk/internal/access/JavaLangAccess"), .int]
  resolved := Array.replicate 378 none
  statics := none }

def pool29 : Array CpInfo := pool [(1, u "java/lang/Cloneable"), (0, .class_ 1), (0, u "java/lang/Object"), (0, .class_ 3)] 3

/-- java/lang/Cloneable -/
def k29 : Class := { plain "java/lang/Cloneable" (some 0) with
  accessFlags := 1537
  interfaces := #[]
  cf := some (fileOf pool29 2 #[] #[] 1537 4 #[] #[])
  fields := #[]
  methods := #[]
  instanceTypes := #[]
  staticTypes := #[]
  resolved := Array.replicate 8 none
  statics := none }

/-- the primitive byte -/
def k30 : Class := { plain "byte" none with kind := .primitive 'B', accessFlags := 0x411 }
/-- [B -/
def k31 : Class := { plain "[B" (some 0) with kind := .array 30 .byte, interfaces := #[29, 6], accessFlags := 1041 }

/-- the primitive int -/
def k32 : Class := { plain "int" none with kind := .primitive 'I', accessFlags := 0x411 }
/-- [I -/
def k33 : Class := { plain "[I" (some 0) with kind := .array 32 .int, interfaces := #[29, 6], accessFlags := 1041 }

/-- [Lcom/example/redoubt/redoubt/Transaction$Operation; -/
def k34 : Class := { plain "[Lcom/example/redoubt/redoubt/Transaction$Operation;" (some 0) with kind := .array 13 (.object "com/example/redoubt/redoubt/Transaction$Operation"), interfaces := #[29, 6], accessFlags := 1041 }

/-- [Ljava/lang/Object; -/
def k35 : Class := { plain "[Ljava/lang/Object;" (some 0) with kind := .array 0 (.object "java/lang/Object"), interfaces := #[29, 6], accessFlags := 1041 }

def heap : Heap := #[{ cls := 3, slots := #[.int 0, .int 0, .int 0, .int 0, .ref 8], vm := .statics 3 },
  { cls := 9, slots := #[.null, .null, .ref 7, .null, .null, .null, .null], vm := .statics 9 },
  { cls := 12, slots := #[.long 0, .int 1, .null, .int 0, .null, .int 0, .int 0], vm := .statics 12 },
  { cls := 19, slots := #[.long 0, .int 0, .null, .null, .ref 6, .null, .null, .null, .int 0, .int 0], vm := .statics 19 },
  { cls := 27, slots := #[.null, .null, .null], vm := .statics 27 },
  { cls := 35, slots := #[], vm := .none },
  { cls := 25, slots := #[.ref 5, .int 0], vm := .none },
  { cls := 9, slots := #[.null, .int 2, .int 0, .int 3], vm := .none },
  { cls := 31, slots := #[], vm := .none }]
def classes : Array Class := #[k0, k1, k2, k3, k4, k5, k6, k7, k8, k9, k10, k11, k12, k13, k14, k15, k16, k17, k18, k19, k20, k21, k22, k23, k24, k25, k26, k27, k28, k29, k30, k31, k32, k33, k34, k35]
def interned : List (Array UInt16 × Addr) := []
def slotsUsed : Nat := 38
def theMethod : MethodId := ⟨1, 1⟩
def args0 : Array Value := #[]
def aboutOver (below : List Frame) : State where
  vm := { classes := classes, interned := interned.toArray }
  heap := heap
  slotsUsed := slotsUsed
  threads := #[{ frames := .invoking theMethod args0 :: below }]
def below0 : List Frame := [.native { method := ⟨0, 0⟩, args := #[] }]
def about1 : State := aboutOver below0
def p0 : Program := .bare "" "" ""
def e0 : Env := launch0.env 0 0 0
theorem w_frames : about1.frames = Frame.invoking theMethod args0 :: below0 := rfl
set_option maxRecDepth 65536 in
theorem w_args : argsFit about1.vm theMethod args0 = true := by decide +kernel
set_option maxRecDepth 65536 in
theorem w_heap : heapFits about1 = true := by decide +kernel
set_option maxRecDepth 65536 in
theorem w_runnable : about1.curStatus? = some .runnable := by decide +kernel
set_option maxRecDepth 65536 in
theorem w_alone : about1.alone = true := by decide +kernel
set_option maxRecDepth 65536 in
theorem w_named : about1.methodNamed? x = some theMethod := by decide +kernel
set_option maxRecDepth 65536 in
theorem w_hears : about1.hears theMethod below0 = true := by decide +kernel
set_option maxRecDepth 65536 in
theorem w_ripe : about1.ripe theMethod args0 below0 = true := by decide +kernel
theorem w_running : about1.status = .running := rfl
set_option maxRecDepth 65536 in
theorem w_room : about1.hasRoom e0.platform room_1 = true :=
  launch0.hasRoom_least _ room_1 (by decide +kernel) (by decide +kernel) (by decide +kernel) (by decide +kernel) (by decide +kernel) (by decide +kernel)
theorem allAtoms_all (ts : List Jvm.Cond) (a : Array Jvm.Value) (st : Jvm.State) : (allAtoms ts).before a st = ts.all (fun c => c.before a st) := by
  induction ts with
  | nil => rfl
  | cons c t ih =>
    show (Jvm.Cond.and c (allAtoms t)).before a st = _
    rw [Jvm.Cond.before_and, ih, List.all_cons]
def words1 : List Jvm.Cond := Jvm.Cond.code x code maxLocals ret :: tables_1
/-- a 'code' word, met by the world's own term for the bytes: nothing is compared byte by byte -/
theorem code_word {y : MethodName} {bytes : ByteArray} {mx : Nat} {rt : Option FieldType} {a : Array Value} {s : State} {m : MethodId} {meth : Method} {c : Code} (h1 : s.methodNamed? y = some m) (h2 : s.vm.method? m = some meth) (h3 : meth.code = some c) (h4 : c.code = bytes)
    (h5 : (c.maxLocals == mx && c.exceptionTable.isEmpty && decide (c.maxStack ≤ mostOperands) && decide (meth.sig.returnType = rt) && !meth.locks && decide (parseMethodDescriptor y.desc = some meth.sig)) = true) : (Jvm.Cond.code y bytes mx rt).before a s = true := by
  simp only [Bool.and_eq_true, beq_iff_eq, Bool.not_eq_true', decide_eq_true_eq] at h5
  obtain ⟨⟨⟨⟨⟨g1, g2⟩, g3⟩, g4⟩, g5⟩, g6⟩ := h5
  simp [Cond.before, Cond.holds, Cond.value, h1, h2, h3, h4, g1, g2, g3, g4, g5, g6]
def isCode : Jvm.Cond → Bool
  | .code _ _ _ _ => true
  | _ => false
theorem all_split {L : List Jvm.Cond} {P : Jvm.Cond → Bool} (h1 : L.all (fun c => isCode c || P c) = true) (h2 : ∀ c ∈ L.filter isCode, P c = true) : L.all P = true := by
  refine List.all_eq_true.mpr fun c hc => ?_
  have h := List.all_eq_true.mp h1 c hc
  rcases Bool.eq_false_or_eq_true (isCode c) with hi | hi
  · exact h2 c (List.mem_filter.mpr ⟨hc, hi⟩)
  · simpa [hi] using h
set_option maxRecDepth 65536 in
theorem w_c0 : (Jvm.Cond.code x code maxLocals ret).before args0 about1 = true := code_word (m := ⟨1, 1⟩) (meth := k1m1) (c := k1c1) (by decide +kernel) rfl rfl rfl (by decide +kernel)
set_option maxRecDepth 65536 in
theorem w_c1 : (Jvm.Cond.code ({ cls := "com/example/redoubt/redoubt/Command", name := "noop", desc := "()Lcom/example/redoubt/redoubt/Command;" } : Jvm.MethodName) prog_9_method_5_code (0 : Nat) (Option.some (Jvm.ClassFile.FieldType.object "com/example/redoubt/redoubt/Command"))).before args0 about1 = true := code_word (m := ⟨3, 1⟩) (meth := k3m1) (c := k3c1) (by decide +kernel) rfl rfl rfl (by decide +kernel)
set_option maxRecDepth 65536 in
theorem w_c2 : (Jvm.Cond.code ({ cls := "com/example/redoubt/redoubt/Command", name := "<init>", desc := "(Lcom/example/redoubt/redoubt/Command$Op;Ljava/lang/String;[B)V" } : Jvm.MethodName) prog_9_method_1_code (4 : Nat) (Option.none : Option Jvm.ClassFile.FieldType)).before args0 about1 = true := code_word (m := ⟨3, 0⟩) (meth := k3m0) (c := k3c0) (by decide +kernel) rfl rfl rfl (by decide +kernel)
set_option maxRecDepth 65536 in
theorem w_c3 : (Jvm.Cond.code ({ cls := "java/lang/Record", name := "<init>", desc := "()V" } : Jvm.MethodName) jdk_30_method_1_code (1 : Nat) (Option.none : Option Jvm.ClassFile.FieldType)).before args0 about1 = true := code_word (m := ⟨2, 0⟩) (meth := k2m0) (c := k2c0) (by decide +kernel) rfl rfl rfl (by decide +kernel)
set_option maxRecDepth 65536 in
theorem w_c4 : (Jvm.Cond.code ({ cls := "java/lang/Object", name := "<init>", desc := "()V" } : Jvm.MethodName) object_method_1_code (1 : Nat) (Option.none : Option Jvm.ClassFile.FieldType)).before args0 about1 = true := code_word (m := ⟨0, 0⟩) (meth := k0m0) (c := k0c0) (by decide +kernel) rfl rfl rfl (by decide +kernel)
set_option maxRecDepth 65536 in
theorem w_c5 : (Jvm.Cond.code ({ cls := "com/example/redoubt/redoubt/Command", name := "op", desc := "()Lcom/example/redoubt/redoubt/Command$Op;" } : Jvm.MethodName) prog_9_method_17_code (1 : Nat) (Option.some (Jvm.ClassFile.FieldType.object "com/example/redoubt/redoubt/Command$Op"))).before args0 about1 = true := code_word (m := ⟨3, 4⟩) (meth := k3m4) (c := k3c4) (by decide +kernel) rfl rfl rfl (by decide +kernel)
set_option maxRecDepth 65536 in
theorem w_c6 : (Jvm.Cond.code ({ cls := "com/example/redoubt/redoubt/Command", name := "key", desc := "()Ljava/lang/String;" } : Jvm.MethodName) prog_9_method_18_code (1 : Nat) (Option.some (Jvm.ClassFile.FieldType.object "java/lang/String"))).before args0 about1 = true := code_word (m := ⟨3, 5⟩) (meth := k3m5) (c := k3c5) (by decide +kernel) rfl rfl rfl (by decide +kernel)
set_option maxRecDepth 65536 in
theorem w_c7 : (Jvm.Cond.code ({ cls := "com/example/redoubt/redoubt/Command", name := "value", desc := "()[B" } : Jvm.MethodName) prog_9_method_19_code (1 : Nat) (Option.some (Jvm.ClassFile.FieldType.array Jvm.ClassFile.FieldType.byte))).before args0 about1 = true := code_word (m := ⟨3, 6⟩) (meth := k3m6) (c := k3c6) (by decide +kernel) rfl rfl rfl (by decide +kernel)
set_option maxRecDepth 65536 in
theorem w_c8 : (Jvm.Cond.code ({ cls := "com/example/redoubt/redoubt/Command$Op", name := "code", desc := "()I" } : Jvm.MethodName) prog_10_method_4_code (1 : Nat) (Option.some Jvm.ClassFile.FieldType.int)).before args0 about1 = true := code_word (m := ⟨9, 0⟩) (meth := k9m0) (c := k9c0) (by decide +kernel) rfl rfl rfl (by decide +kernel)
set_option maxRecDepth 65536 in
theorem w_c9 : (Jvm.Cond.code ({ cls := "java/lang/String", name := "isEmpty", desc := "()Z" } : Jvm.MethodName) jdk_42_method_55_code (1 : Nat) (Option.some Jvm.ClassFile.FieldType.boolean)).before args0 about1 = true := code_word (m := ⟨12, 1⟩) (meth := k12m1) (c := k12c1) (by decide +kernel) rfl rfl rfl (by decide +kernel)
set_option maxRecDepth 65536 in
theorem w_c10 : (Jvm.Cond.code ({ cls := "com/example/redoubt/redoubt/Command", name := "isWellFormed", desc := "(Lcom/example/redoubt/redoubt/Command$Op;Ljava/lang/String;[B)Z" } : Jvm.MethodName) prog_9_method_12_code (4 : Nat) (Option.some Jvm.ClassFile.FieldType.boolean)).before args0 about1 = true := code_word (m := ⟨3, 3⟩) (meth := k3m3) (c := k3c3) (by decide +kernel) rfl rfl rfl (by decide +kernel)
set_option maxRecDepth 65536 in
theorem w_c11 : (Jvm.Cond.code ({ cls := "java/lang/Enum", name := "ordinal", desc := "()I" } : Jvm.MethodName) jdk_37_method_2_code (1 : Nat) (Option.some Jvm.ClassFile.FieldType.int)).before args0 about1 = true := code_word (m := ⟨7, 0⟩) (meth := k7m0) (c := k7c0) (by decide +kernel) rfl rfl rfl (by decide +kernel)
set_option maxRecDepth 65536 in
theorem w_c12 : (Jvm.Cond.code ({ cls := "com/example/redoubt/redoubt/Command", name := "asTransaction", desc := "()Lcom/example/redoubt/redoubt/Transaction;" } : Jvm.MethodName) prog_9_method_11_code (2 : Nat) (Option.some (Jvm.ClassFile.FieldType.object "com/example/redoubt/redoubt/Transaction"))).before args0 about1 = true := code_word (m := ⟨3, 2⟩) (meth := k3m2) (c := k3c2) (by decide +kernel) rfl rfl rfl (by decide +kernel)
set_option maxRecDepth 65536 in
theorem w_c13 : (Jvm.Cond.code ({ cls := "com/example/redoubt/redoubt/Transaction", name := "of", desc := "([Lcom/example/redoubt/redoubt/Transaction$Operation;)Lcom/example/redoubt/redoubt/Transaction;" } : Jvm.MethodName) prog_57_method_2_code (1 : Nat) (Option.some (Jvm.ClassFile.FieldType.object "com/example/redoubt/redoubt/Transaction"))).before args0 about1 = true := code_word (m := ⟨14, 1⟩) (meth := k14m1) (c := k14c1) (by decide +kernel) rfl rfl rfl (by decide +kernel)
set_option maxRecDepth 65536 in
theorem w_c14 : (Jvm.Cond.code ({ cls := "java/util/List", name := "of", desc := "()Ljava/util/List;" } : Jvm.MethodName) jdk_40_method_36_code (0 : Nat) (Option.some (Jvm.ClassFile.FieldType.object "java/util/List"))).before args0 about1 = true := code_word (m := ⟨18, 1⟩) (meth := k18m1) (c := k18c1) (by decide +kernel) rfl rfl rfl (by decide +kernel)
set_option maxRecDepth 65536 in
theorem w_c15 : (Jvm.Cond.code ({ cls := "java/util/List", name := "of", desc := "([Ljava/lang/Object;)Ljava/util/List;" } : Jvm.MethodName) jdk_40_method_47_code (2 : Nat) (Option.some (Jvm.ClassFile.FieldType.object "java/util/List"))).before args0 about1 = true := code_word (m := ⟨18, 2⟩) (meth := k18m2) (c := k18c2) (by decide +kernel) rfl rfl rfl (by decide +kernel)
set_option maxRecDepth 65536 in
theorem w_c16 : (Jvm.Cond.code ({ cls := "com/example/redoubt/redoubt/Transaction", name := "<init>", desc := "(Ljava/util/List;Ljava/util/List;Ljava/util/List;)V" } : Jvm.MethodName) prog_57_method_1_code (4 : Nat) (Option.none : Option Jvm.ClassFile.FieldType)).before args0 about1 = true := code_word (m := ⟨14, 0⟩) (meth := k14m0) (c := k14c0) (by decide +kernel) rfl rfl rfl (by decide +kernel)
set_option maxRecDepth 65536 in
theorem w_c17 : (Jvm.Cond.code ({ cls := "java/util/List", name := "copyOf", desc := "(Ljava/util/Collection;)Ljava/util/List;" } : Jvm.MethodName) jdk_40_method_48_code (1 : Nat) (Option.some (Jvm.ClassFile.FieldType.object "java/util/List"))).before args0 about1 = true := code_word (m := ⟨18, 3⟩) (meth := k18m3) (c := k18c3) (by decide +kernel) rfl rfl rfl (by decide +kernel)
set_option maxRecDepth 65536 in
theorem w_c18 : (Jvm.Cond.code ({ cls := "java/util/ImmutableCollections", name := "listCopy", desc := "(Ljava/util/Collection;)Ljava/util/List;" } : Jvm.MethodName) jdk_56_method_3_code (2 : Nat) (Option.some (Jvm.ClassFile.FieldType.object "java/util/List"))).before args0 about1 = true := code_word (m := ⟨19, 1⟩) (meth := k19m1) (c := k19c1) (by decide +kernel) rfl rfl rfl (by decide +kernel)
set_option maxRecDepth 65536 in
theorem w_c19 : (Jvm.Cond.code ({ cls := "com/example/redoubt/redoubt/Transaction", name := "compares", desc := "()Ljava/util/List;" } : Jvm.MethodName) prog_57_method_17_code (1 : Nat) (Option.some (Jvm.ClassFile.FieldType.object "java/util/List"))).before args0 about1 = true := code_word (m := ⟨14, 2⟩) (meth := k14m2) (c := k14c2) (by decide +kernel) rfl rfl rfl (by decide +kernel)
set_option maxRecDepth 65536 in
theorem w_c20 : (Jvm.Cond.code ({ cls := "java/util/ImmutableCollections$ListN", name := "size", desc := "()I" } : Jvm.MethodName) jdk_45_method_3_code (1 : Nat) (Option.some Jvm.ClassFile.FieldType.int)).before args0 about1 = true := code_word (m := ⟨25, 0⟩) (meth := k25m0) (c := k25c0) (by decide +kernel) rfl rfl rfl (by decide +kernel)
set_option maxRecDepth 65536 in
theorem w_c21 : (Jvm.Cond.code ({ cls := "com/example/redoubt/redoubt/Transaction", name := "success", desc := "()Ljava/util/List;" } : Jvm.MethodName) prog_57_method_18_code (1 : Nat) (Option.some (Jvm.ClassFile.FieldType.object "java/util/List"))).before args0 about1 = true := code_word (m := ⟨14, 3⟩) (meth := k14m3) (c := k14c3) (by decide +kernel) rfl rfl rfl (by decide +kernel)
set_option maxRecDepth 65536 in
theorem w_c22 : (Jvm.Cond.code ({ cls := "com/example/redoubt/redoubt/Transaction", name := "failure", desc := "()Ljava/util/List;" } : Jvm.MethodName) prog_57_method_19_code (1 : Nat) (Option.some (Jvm.ClassFile.FieldType.object "java/util/List"))).before args0 about1 = true := code_word (m := ⟨14, 4⟩) (meth := k14m4) (c := k14c4) (by decide +kernel) rfl rfl rfl (by decide +kernel)
def codes1 : List Jvm.Cond := [Jvm.Cond.code x code maxLocals ret, Jvm.Cond.code ({ cls := "com/example/redoubt/redoubt/Command", name := "noop", desc := "()Lcom/example/redoubt/redoubt/Command;" } : Jvm.MethodName) prog_9_method_5_code (0 : Nat) (Option.some (Jvm.ClassFile.FieldType.object "com/example/redoubt/redoubt/Command")), Jvm.Cond.code ({ cls := "com/example/redoubt/redoubt/Command", name := "<init>", desc := "(Lcom/example/redoubt/redoubt/Command$Op;Ljava/lang/String;[B)V" } : Jvm.MethodName) prog_9_method_1_code (4 : Nat) (Option.none : Option Jvm.ClassFile.FieldType), Jvm.Cond.code ({ cls := "java/lang/Record", name := "<init>", desc := "()V" } : Jvm.MethodName) jdk_30_method_1_code (1 : Nat) (Option.none : Option Jvm.ClassFile.FieldType), Jvm.Cond.code ({ cls := "java/lang/Object", name := "<init>", desc := "()V" } : Jvm.MethodName) object_method_1_code (1 : Nat) (Option.none : Option Jvm.ClassFile.FieldType), Jvm.Cond.code ({ cls := "com/example/redoubt/redoubt/Command", name := "op", desc := "()Lcom/example/redoubt/redoubt/Command$Op;" } : Jvm.MethodName) prog_9_method_17_code (1 : Nat) (Option.some (Jvm.ClassFile.FieldType.object "com/example/redoubt/redoubt/Command$Op")), Jvm.Cond.code ({ cls := "com/example/redoubt/redoubt/Command", name := "key", desc := "()Ljava/lang/String;" } : Jvm.MethodName) prog_9_method_18_code (1 : Nat) (Option.some (Jvm.ClassFile.FieldType.object "java/lang/String")), Jvm.Cond.code ({ cls := "com/example/redoubt/redoubt/Command", name := "value", desc := "()[B" } : Jvm.MethodName) prog_9_method_19_code (1 : Nat) (Option.some (Jvm.ClassFile.FieldType.array Jvm.ClassFile.FieldType.byte)), Jvm.Cond.code ({ cls := "com/example/redoubt/redoubt/Command$Op", name := "code", desc := "()I" } : Jvm.MethodName) prog_10_method_4_code (1 : Nat) (Option.some Jvm.ClassFile.FieldType.int), Jvm.Cond.code ({ cls := "java/lang/String", name := "isEmpty", desc := "()Z" } : Jvm.MethodName) jdk_42_method_55_code (1 : Nat) (Option.some Jvm.ClassFile.FieldType.boolean), Jvm.Cond.code ({ cls := "com/example/redoubt/redoubt/Command", name := "isWellFormed", desc := "(Lcom/example/redoubt/redoubt/Command$Op;Ljava/lang/String;[B)Z" } : Jvm.MethodName) prog_9_method_12_code (4 : Nat) (Option.some Jvm.ClassFile.FieldType.boolean), Jvm.Cond.code ({ cls := "java/lang/Enum", name := "ordinal", desc := "()I" } : Jvm.MethodName) jdk_37_method_2_code (1 : Nat) (Option.some Jvm.ClassFile.FieldType.int), Jvm.Cond.code ({ cls := "com/example/redoubt/redoubt/Command", name := "asTransaction", desc := "()Lcom/example/redoubt/redoubt/Transaction;" } : Jvm.MethodName) prog_9_method_11_code (2 : Nat) (Option.some (Jvm.ClassFile.FieldType.object "com/example/redoubt/redoubt/Transaction")), Jvm.Cond.code ({ cls := "com/example/redoubt/redoubt/Transaction", name := "of", desc := "([Lcom/example/redoubt/redoubt/Transaction$Operation;)Lcom/example/redoubt/redoubt/Transaction;" } : Jvm.MethodName) prog_57_method_2_code (1 : Nat) (Option.some (Jvm.ClassFile.FieldType.object "com/example/redoubt/redoubt/Transaction")), Jvm.Cond.code ({ cls := "java/util/List", name := "of", desc := "()Ljava/util/List;" } : Jvm.MethodName) jdk_40_method_36_code (0 : Nat) (Option.some (Jvm.ClassFile.FieldType.object "java/util/List")), Jvm.Cond.code ({ cls := "java/util/List", name := "of", desc := "([Ljava/lang/Object;)Ljava/util/List;" } : Jvm.MethodName) jdk_40_method_47_code (2 : Nat) (Option.some (Jvm.ClassFile.FieldType.object "java/util/List")), Jvm.Cond.code ({ cls := "com/example/redoubt/redoubt/Transaction", name := "<init>", desc := "(Ljava/util/List;Ljava/util/List;Ljava/util/List;)V" } : Jvm.MethodName) prog_57_method_1_code (4 : Nat) (Option.none : Option Jvm.ClassFile.FieldType), Jvm.Cond.code ({ cls := "java/util/List", name := "copyOf", desc := "(Ljava/util/Collection;)Ljava/util/List;" } : Jvm.MethodName) jdk_40_method_48_code (1 : Nat) (Option.some (Jvm.ClassFile.FieldType.object "java/util/List")), Jvm.Cond.code ({ cls := "java/util/ImmutableCollections", name := "listCopy", desc := "(Ljava/util/Collection;)Ljava/util/List;" } : Jvm.MethodName) jdk_56_method_3_code (2 : Nat) (Option.some (Jvm.ClassFile.FieldType.object "java/util/List")), Jvm.Cond.code ({ cls := "com/example/redoubt/redoubt/Transaction", name := "compares", desc := "()Ljava/util/List;" } : Jvm.MethodName) prog_57_method_17_code (1 : Nat) (Option.some (Jvm.ClassFile.FieldType.object "java/util/List")), Jvm.Cond.code ({ cls := "java/util/ImmutableCollections$ListN", name := "size", desc := "()I" } : Jvm.MethodName) jdk_45_method_3_code (1 : Nat) (Option.some Jvm.ClassFile.FieldType.int), Jvm.Cond.code ({ cls := "com/example/redoubt/redoubt/Transaction", name := "success", desc := "()Ljava/util/List;" } : Jvm.MethodName) prog_57_method_18_code (1 : Nat) (Option.some (Jvm.ClassFile.FieldType.object "java/util/List")), Jvm.Cond.code ({ cls := "com/example/redoubt/redoubt/Transaction", name := "failure", desc := "()Ljava/util/List;" } : Jvm.MethodName) prog_57_method_19_code (1 : Nat) (Option.some (Jvm.ClassFile.FieldType.object "java/util/List"))]
set_option maxRecDepth 65536 in
theorem codes_eq : words1.filter isCode = codes1 := rfl
theorem w_codes : ∀ c ∈ words1.filter isCode, c.before args0 about1 = true := by
  rw [codes_eq]
  intro c hc
  simp only [codes1, List.mem_cons, List.not_mem_nil, or_false] at hc
  rcases hc with rfl | rfl | rfl | rfl | rfl | rfl | rfl | rfl | rfl | rfl | rfl | rfl | rfl | rfl | rfl | rfl | rfl | rfl | rfl | rfl | rfl | rfl | rfl
  · exact w_c0
  · exact w_c1
  · exact w_c2
  · exact w_c3
  · exact w_c4
  · exact w_c5
  · exact w_c6
  · exact w_c7
  · exact w_c8
  · exact w_c9
  · exact w_c10
  · exact w_c11
  · exact w_c12
  · exact w_c13
  · exact w_c14
  · exact w_c15
  · exact w_c16
  · exact w_c17
  · exact w_c18
  · exact w_c19
  · exact w_c20
  · exact w_c21
  · exact w_c22
set_option maxRecDepth 65536 in
theorem w_t1 : (words1.take 24).all (fun c => isCode c || c.before args0 about1) = true := by decide +kernel
set_option maxRecDepth 65536 in
theorem w_t2 : ((words1.drop 24).take 24).all (fun c => isCode c || c.before args0 about1) = true := by decide +kernel
set_option maxRecDepth 65536 in
theorem w_t3 : (((words1.drop 24).drop 24).take 24).all (fun c => isCode c || c.before args0 about1) = true := by decide +kernel
set_option maxRecDepth 65536 in
theorem w_t4 : ((((words1.drop 24).drop 24).drop 24).take 24).all (fun c => isCode c || c.before args0 about1) = true := by decide +kernel
set_option maxRecDepth 65536 in
theorem w_t5 : (((((words1.drop 24).drop 24).drop 24).drop 24).take 24).all (fun c => isCode c || c.before args0 about1) = true := by decide +kernel
set_option maxRecDepth 65536 in
theorem w_t6 : ((((((words1.drop 24).drop 24).drop 24).drop 24).drop 24).take 24).all (fun c => isCode c || c.before args0 about1) = true := by decide +kernel
set_option maxRecDepth 65536 in
theorem w_t7 : ((((((words1.drop 24).drop 24).drop 24).drop 24).drop 24).drop 24).all (fun c => isCode c || c.before args0 about1) = true := by decide +kernel
theorem w_tables : (allAtoms (Jvm.Cond.code x code maxLocals ret :: tables_1)).before args0 about1 = true := by
  rw [allAtoms_all]
  show words1.all (fun c => c.before args0 about1) = true
  refine all_split ?_ w_codes
  rw [← List.take_append_drop 24 words1, List.all_append, w_t1, ← List.take_append_drop 24 (words1.drop 24), List.all_append, w_t2, ← List.take_append_drop 24 ((words1.drop 24).drop 24), List.all_append, w_t3, ← List.take_append_drop 24 (((words1.drop 24).drop 24).drop 24), List.all_append, w_t4, ← List.take_append_drop 24 ((((words1.drop 24).drop 24).drop 24).drop 24), List.all_append, w_t5, ← List.take_append_drop 24 (((((words1.drop 24).drop 24).drop 24).drop 24).drop 24), List.all_append, w_t6, w_t7]
  rfl
set_option maxRecDepth 65536 in
theorem w_rest : rest_1_c.before args0 about1 = true := by decide +kernel
set_option maxRecDepth 65536 in
theorem w_case : (Jvm.Cond.and given_1 narrow_1).before args0 about1 = true := by decide +kernel
set_option maxRecDepth 65536 in
theorem w_consts : constsHeld consts_1 about1 := Jvm.Lit.constsHeldB_iff.mp (by decide +kernel)
theorem w_applies : (headSpec (Jvm.Cond.code x code maxLocals ret :: tables_1) room_1).applies x e0.platform about1 = true :=
  (Spec.applies_iff w_frames).mpr ⟨w_running, w_runnable, w_alone, w_named, w_hears, w_ripe, w_room, w_tables⟩
theorem atStart : AtStart classFile x code maxLocals ret World_1 tables_1 room_1 Calls_1 rest_1 Pre_1 launch0 p0 e0 about1 theMethod args0 below0 :=
  ⟨lists_1, trivial, launch0.admits_env _ _ _, launch0.least_env, fairChoices_fair.cas, fairChoices_fair.clock, w_frames, w_args, w_heap, w_applies, ⟨w_consts, trivial⟩, w_rest, w_case⟩
end start1
theorem witness_1 : WitnessClaimed_1 := ⟨start1.p0, start1.e0, start1.about1, start1.theMethod, start1.args0, start1.below0, start1.atStart⟩
end Jvm.Pilot.@@N@@
