import JvmDerived
import JvmDerived.Pilot.@@N@@Statement
import JvmDerived.Pilot.@@N@@Code
set_option linter.unusedVariables false
set_option linter.unusedSimpArgs false
set_option maxHeartbeats 4000000
namespace Jvm.Pilot.@@N@@
open Jvm Jvm.ClassFile Sem Op Lib Jvm.Free Jvm.Stand Jvm.LawKit Jvm.RoadKit Bundle Jvm.Pilot.@@N@@.Jvm.D

def own_Go (tb : Tables) (e : Env) (below : List Frame) (U : State) (Q : Outcome → State → Prop) : Prop :=
  ∃ s₂ o, Steps tb e below U s₂ ∧ s₂.status = .running ∧ Ended s₂ below o ∧ Q o s₂
def own_QR (s : State) (n0 kc ks : Nat) (P : Option Value → Heap → Prop) (o : Outcome) (u : State) : Prop :=
  ∃ v L, o = .returned v ∧ (P v u.heap ∧ Fr n0 L) ∧ FrameEnd s o u L kc ks
def own_RI (h : Heap) (r : Int32) (v : Option Value) (h' : Heap) : Prop := v = some (.int r) ∧ h = h'
def own_RV (r : Int32) (v : Option Value) (h' : Heap) : Prop := v = some (.int r)
def own_R0 (h : Heap) (r : Unit) (v : Option Value) (h' : Heap) : Prop := v = none ∧ h = h'
def own_RJ (h : Heap) (r : Int64) (v : Option Value) (h' : Heap) : Prop := v = some (.long r) ∧ h = h'
def own_Cx (Z : State) (a0 : Array Value) (p : Program) (l : Launch) (e : Env) (R : Room) (s : State) (m : MethodId) (args : Array Value) (below : List Frame) (meth : Method) (c : Code) (own nm : String) (bytes : ByteArray) (mx : Nat) (ret : Option FieldType) : Prop :=
  p.tables.exec = Jvm.exec ∧ c.code = bytes ∧ c.maxLocals = mx ∧ s.vm.findClass own = some m.cls ∧ Z.Warmed39 s.vm ∧ meth.name = nm ∧ meth.sig.returnType = ret ∧ meth.locks = false ∧ ∀ d ∈ tables_1, d.before a0 Z = true
def own_At (p : Program) (l : Launch) (e : Env) (R : Room) (s : State) (m : MethodId) (args : Array Value) (below : List Frame) (meth : Method) (c : Code) (T : State) (h : Heap) (n0 kc ks : Nat) : Prop :=
  ∃ locs cells slots, Stand p l e R s m args below meth c T locs cells slots ∧ T.heap = h ∧ Fr n0 locs ∧ cells ≤ kc ∧ slots ≤ ks ∧ n0 ≤ h.size
theorem own_go {tb : Tables} {e : Env} {below : List Frame} {U U' : State} {Q : Outcome → State → Prop} (h : ∀ t, Steps tb e below U' t → Steps tb e below U t) (k : own_Go tb e below U' Q) : own_Go tb e below U Q := by
  obtain ⟨s2, o, h1, h2⟩ := k
  exact ⟨s2, o, h _ h1, h2⟩
theorem own_ite {tb : Tables} {e : Env} {below : List Frame} {U s : State} {n0 kc ks : Nat} {β : Type} {P : β → Option Value → Heap → Prop} {cnd : Prop} [Decidable cnd] {A B : β} (h1 : cnd → own_Go tb e below U (own_QR s n0 kc ks (P A))) (h2 : ¬ cnd → own_Go tb e below U (own_QR s n0 kc ks (P B))) :
    own_Go tb e below U (own_QR s n0 kc ks (P (if cnd then A else B))) := by
  by_cases hc : cnd
  · rw [if_pos hc]; exact h1 hc
  · rw [if_neg hc]; exact h2 hc

section OwnKit
variable {Z : State} {a0 : Array Value} {p : Program} {l : Launch} {e : Env} {R : Room} {s : State} {m : MethodId} {args : Array Value} {below : List Frame} {meth : Method} {c : Code} {own nm : String} {bytes : ByteArray} {mx : Nat} {ret : Option FieldType} {T : State} {h : Heap} {n0 kc ks : Nat} {Q : Outcome → State → Prop} {pc q : Nat} {Ls : Array Slot} {st : List Value}
theorem own_here (A : own_At p l e R s m args below meth c T h n0 kc ks) : At T m c below := by obtain ⟨_, _, _, X, _⟩ := A; exact X.here
theorem own_w (C : own_Cx Z a0 p l e R s m args below meth c own nm bytes mx ret) (i : Nat) {d : Jvm.Cond} (hi : tables_1[i]? = some d) : d.before a0 Z = true := C.2.2.2.2.2.2.2.2 d (List.mem_of_getElem? hi)
theorem own_size (A : own_At p l e R s m args below meth c T h n0 kc ks) : n0 ≤ h.size := by obtain ⟨_, _, _, _, _, _, _, _, hn⟩ := A; exact hn
theorem own_more {kc' ks' : Nat} (A : own_At p l e R s m args below meth c T h n0 kc ks) (h1 : kc ≤ kc') (h2 : ks ≤ ks') : own_At p l e R s m args below meth c T h n0 kc' ks' := by obtain ⟨locs, cells, slots, X, eT, N, hc, hs, hn⟩ := A; exact ⟨locs, cells, slots, X, eT, N, Nat.le_trans hc h1, Nat.le_trans hs h2, hn⟩
theorem own_iloadN (C : own_Cx Z a0 p l e R s m args below meth c own nm bytes mx ret) (A : own_At p l e R s m args below meth c T h n0 kc ks) {k : Fin 4} {v : Int32} (hd : decode bytes pc = .ok (.iload_n k, 1)) (hl : Ls[k.val]? = some (.val (.int v))) (hq : pc + 1 = q) (k : own_Go p.tables e below (T.setTop (mkF m q Ls (.int v :: st))) Q) :
    own_Go p.tables e below (T.setTop (mkF m pc Ls st)) Q := by
  subst hq
  exact own_go (fun t => XS.iloadN (own_here A) C.1 rfl (hb C.2.1 hd) hl) k
theorem own_lloadN (C : own_Cx Z a0 p l e R s m args below meth c own nm bytes mx ret) (A : own_At p l e R s m args below meth c T h n0 kc ks) {k : Fin 4} {v : Int64} (hd : decode bytes pc = .ok (.lload_n k, 1)) (hl : Ls[k.val]? = some (.val (.long v))) (hq : pc + 1 = q) (k : own_Go p.tables e below (T.setTop (mkF m q Ls (.long v :: st))) Q) :
    own_Go p.tables e below (T.setTop (mkF m pc Ls st)) Q := by
  subst hq
  exact own_go (fun t => XS.lloadN (own_here A) C.1 rfl (hb C.2.1 hd) hl) k
theorem own_aloadN (C : own_Cx Z a0 p l e R s m args below meth c own nm bytes mx ret) (A : own_At p l e R s m args below meth c T h n0 kc ks) {k : Fin 4} {v : Value} (hd : decode bytes pc = .ok (.aload_n k, 1)) (hl : Ls[k.val]? = some (.val v)) (hv : v.isRef = true) (hq : pc + 1 = q) (k : own_Go p.tables e below (T.setTop (mkF m q Ls (v :: st))) Q) :
    own_Go p.tables e below (T.setTop (mkF m pc Ls st)) Q := by
  subst hq
  exact own_go (fun t => XS.aloadN (own_here A) C.1 rfl (hb C.2.1 hd) hl hv) k
theorem own_istoreN (C : own_Cx Z a0 p l e R s m args below meth c own nm bytes mx ret) (A : own_At p l e R s m args below meth c T h n0 kc ks) {k : Fin 4} {x : Int32} {l' : Array Slot} (hd : decode bytes pc = .ok (.istore_n k, 1)) (hl : storeLocals Ls k.val (.int x) = some l') (hq : pc + 1 = q) (k : own_Go p.tables e below (T.setTop (mkF m q l' st)) Q) :
    own_Go p.tables e below (T.setTop (mkF m pc Ls (.int x :: st))) Q := by
  subst hq
  exact own_go (fun t => XS.istoreN (own_here A) C.1 rfl (hb C.2.1 hd) rfl hl) k
theorem own_lstoreN (C : own_Cx Z a0 p l e R s m args below meth c own nm bytes mx ret) (A : own_At p l e R s m args below meth c T h n0 kc ks) {k : Fin 4} {x : Int64} {l' : Array Slot} (hd : decode bytes pc = .ok (.lstore_n k, 1)) (hl : storeLocals Ls k.val (.long x) = some l') (hq : pc + 1 = q) (k : own_Go p.tables e below (T.setTop (mkF m q l' st)) Q) :
    own_Go p.tables e below (T.setTop (mkF m pc Ls (.long x :: st))) Q := by
  subst hq
  exact own_go (fun t => XS.lstoreN (own_here A) C.1 rfl (hb C.2.1 hd) rfl hl) k
theorem own_astoreN (C : own_Cx Z a0 p l e R s m args below meth c own nm bytes mx ret) (A : own_At p l e R s m args below meth c T h n0 kc ks) {k : Fin 4} {x : Value} {l' : Array Slot} (hd : decode bytes pc = .ok (.astore_n k, 1)) (hv : x.isRef = true) (hl : storeLocals Ls k.val x = some l') (hq : pc + 1 = q) (k : own_Go p.tables e below (T.setTop (mkF m q l' st)) Q) :
    own_Go p.tables e below (T.setTop (mkF m pc Ls (x :: st))) Q := by
  subst hq
  exact own_go (fun t => XS.astoreN (own_here A) C.1 rfl (hb C.2.1 hd) rfl hv hl) k
theorem own_iload (C : own_Cx Z a0 p l e R s m args below meth c own nm bytes mx ret) (A : own_At p l e R s m args below meth c T h n0 kc ks) {k : Nat} {v : Int32} (hd : decode bytes pc = .ok (.iload k, 2)) (hl : Ls[k]? = some (.val (.int v))) (hq : pc + 2 = q) (k : own_Go p.tables e below (T.setTop (mkF m q Ls (.int v :: st))) Q) :
    own_Go p.tables e below (T.setTop (mkF m pc Ls st)) Q := by
  subst hq
  exact own_go (fun t => XS.iload (own_here A) C.1 rfl (hb C.2.1 hd) hl) k
theorem own_lload (C : own_Cx Z a0 p l e R s m args below meth c own nm bytes mx ret) (A : own_At p l e R s m args below meth c T h n0 kc ks) {k : Nat} {v : Int64} (hd : decode bytes pc = .ok (.lload k, 2)) (hl : Ls[k]? = some (.val (.long v))) (hq : pc + 2 = q) (k : own_Go p.tables e below (T.setTop (mkF m q Ls (.long v :: st))) Q) :
    own_Go p.tables e below (T.setTop (mkF m pc Ls st)) Q := by
  subst hq
  exact own_go (fun t => XS.lload (own_here A) C.1 rfl (hb C.2.1 hd) hl) k
theorem own_aload (C : own_Cx Z a0 p l e R s m args below meth c own nm bytes mx ret) (A : own_At p l e R s m args below meth c T h n0 kc ks) {k : Nat} {v : Value} (hd : decode bytes pc = .ok (.aload k, 2)) (hl : Ls[k]? = some (.val v)) (hv : v.isRef = true) (hq : pc + 2 = q) (k : own_Go p.tables e below (T.setTop (mkF m q Ls (v :: st))) Q) :
    own_Go p.tables e below (T.setTop (mkF m pc Ls st)) Q := by
  subst hq
  exact own_go (fun t => XS.aload (own_here A) C.1 rfl (hb C.2.1 hd) hl hv) k
theorem own_istore (C : own_Cx Z a0 p l e R s m args below meth c own nm bytes mx ret) (A : own_At p l e R s m args below meth c T h n0 kc ks) {k : Nat} {x : Int32} {l' : Array Slot} (hd : decode bytes pc = .ok (.istore k, 2)) (hl : storeLocals Ls k (.int x) = some l') (hq : pc + 2 = q) (k : own_Go p.tables e below (T.setTop (mkF m q l' st)) Q) :
    own_Go p.tables e below (T.setTop (mkF m pc Ls (.int x :: st))) Q := by
  subst hq
  exact own_go (fun t => XS.istore (own_here A) C.1 rfl (hb C.2.1 hd) rfl hl) k
theorem own_lstore (C : own_Cx Z a0 p l e R s m args below meth c own nm bytes mx ret) (A : own_At p l e R s m args below meth c T h n0 kc ks) {k : Nat} {x : Int64} {l' : Array Slot} (hd : decode bytes pc = .ok (.lstore k, 2)) (hl : storeLocals Ls k (.long x) = some l') (hq : pc + 2 = q) (k : own_Go p.tables e below (T.setTop (mkF m q l' st)) Q) :
    own_Go p.tables e below (T.setTop (mkF m pc Ls (.long x :: st))) Q := by
  subst hq
  exact own_go (fun t => XS.lstore (own_here A) C.1 rfl (hb C.2.1 hd) rfl hl) k
theorem own_astore (C : own_Cx Z a0 p l e R s m args below meth c own nm bytes mx ret) (A : own_At p l e R s m args below meth c T h n0 kc ks) {k : Nat} {x : Value} {l' : Array Slot} (hd : decode bytes pc = .ok (.astore k, 2)) (hv : x.isRef = true) (hl : storeLocals Ls k x = some l') (hq : pc + 2 = q) (k : own_Go p.tables e below (T.setTop (mkF m q l' st)) Q) :
    own_Go p.tables e below (T.setTop (mkF m pc Ls (x :: st))) Q := by
  subst hq
  exact own_go (fun t => XS.astore (own_here A) C.1 rfl (hb C.2.1 hd) rfl hv hl) k
theorem own_iconst (C : own_Cx Z a0 p l e R s m args below meth c own nm bytes mx ret) (A : own_At p l e R s m args below meth c T h n0 kc ks) {i : Int} {v : Int32} (hd : decode bytes pc = .ok (.iconst i, 1)) (hv : Int32.ofInt i = v) (hq : pc + 1 = q) (k : own_Go p.tables e below (T.setTop (mkF m q Ls (.int v :: st))) Q) :
    own_Go p.tables e below (T.setTop (mkF m pc Ls st)) Q := by
  subst hq hv
  exact own_go (fun t => XS.iconst (own_here A) C.1 rfl (hb C.2.1 hd)) k
theorem own_bipush (C : own_Cx Z a0 p l e R s m args below meth c own nm bytes mx ret) (A : own_At p l e R s m args below meth c T h n0 kc ks) {i : Int} {v : Int32} (hd : decode bytes pc = .ok (.bipush i, 2)) (hv : (Int8.ofInt i).toInt32 = v) (hq : pc + 2 = q) (k : own_Go p.tables e below (T.setTop (mkF m q Ls (.int v :: st))) Q) :
    own_Go p.tables e below (T.setTop (mkF m pc Ls st)) Q := by
  subst hq hv
  exact own_go (fun t => XS.bipush (own_here A) C.1 rfl (hb C.2.1 hd)) k
theorem own_sipush (C : own_Cx Z a0 p l e R s m args below meth c own nm bytes mx ret) (A : own_At p l e R s m args below meth c T h n0 kc ks) {i : Int} {v : Int32} (hd : decode bytes pc = .ok (.sipush i, 3)) (hv : (Int16.ofInt i).toInt32 = v) (hq : pc + 3 = q) (k : own_Go p.tables e below (T.setTop (mkF m q Ls (.int v :: st))) Q) :
    own_Go p.tables e below (T.setTop (mkF m pc Ls st)) Q := by
  subst hq hv
  exact own_go (fun t => XS.sipush (own_here A) C.1 rfl (hb C.2.1 hd)) k
theorem own_lconst (C : own_Cx Z a0 p l e R s m args below meth c own nm bytes mx ret) (A : own_At p l e R s m args below meth c T h n0 kc ks) {k' : Fin 2} {v : Int64} (hd : decode bytes pc = .ok (.lconst k', 1)) (hv : Int64.ofNat k' = v) (hq : pc + 1 = q) (k : own_Go p.tables e below (T.setTop (mkF m q Ls (.long v :: st))) Q) :
    own_Go p.tables e below (T.setTop (mkF m pc Ls st)) Q := by
  subst hq hv
  exact own_go (fun t => XS.lconst (own_here A) C.1 rfl (hb C.2.1 hd)) k
theorem own_aconstNull (C : own_Cx Z a0 p l e R s m args below meth c own nm bytes mx ret) (A : own_At p l e R s m args below meth c T h n0 kc ks)  (hd : decode bytes pc = .ok (.aconst_null, 1))  (hq : pc + 1 = q) (k : own_Go p.tables e below (T.setTop (mkF m q Ls (.null :: st))) Q) :
    own_Go p.tables e below (T.setTop (mkF m pc Ls st)) Q := by
  subst hq
  exact own_go (fun t => XS.aconstNull (own_here A) C.1 rfl (hb C.2.1 hd) ) k
theorem own_iadd (C : own_Cx Z a0 p l e R s m args below meth c own nm bytes mx ret) (A : own_At p l e R s m args below meth c T h n0 kc ks) {x y : Int32} (hd : decode bytes pc = .ok (.iadd, 1))  (hq : pc + 1 = q) (k : own_Go p.tables e below (T.setTop (mkF m q Ls (.int (x + y) :: st))) Q) :
    own_Go p.tables e below (T.setTop (mkF m pc Ls (.int y :: .int x :: st))) Q := by
  subst hq
  exact own_go (fun t => XS.iadd (own_here A) C.1 rfl (hb C.2.1 hd) rfl) k
theorem own_isub (C : own_Cx Z a0 p l e R s m args below meth c own nm bytes mx ret) (A : own_At p l e R s m args below meth c T h n0 kc ks) {x y : Int32} (hd : decode bytes pc = .ok (.isub, 1))  (hq : pc + 1 = q) (k : own_Go p.tables e below (T.setTop (mkF m q Ls (.int (x - y) :: st))) Q) :
    own_Go p.tables e below (T.setTop (mkF m pc Ls (.int y :: .int x :: st))) Q := by
  subst hq
  exact own_go (fun t => XS.isub (own_here A) C.1 rfl (hb C.2.1 hd) rfl) k
theorem own_imul (C : own_Cx Z a0 p l e R s m args below meth c own nm bytes mx ret) (A : own_At p l e R s m args below meth c T h n0 kc ks) {x y : Int32} (hd : decode bytes pc = .ok (.imul, 1))  (hq : pc + 1 = q) (k : own_Go p.tables e below (T.setTop (mkF m q Ls (.int (x * y) :: st))) Q) :
    own_Go p.tables e below (T.setTop (mkF m pc Ls (.int y :: .int x :: st))) Q := by
  subst hq
  exact own_go (fun t => XS.imul (own_here A) C.1 rfl (hb C.2.1 hd) rfl) k
theorem own_iand (C : own_Cx Z a0 p l e R s m args below meth c own nm bytes mx ret) (A : own_At p l e R s m args below meth c T h n0 kc ks) {x y : Int32} (hd : decode bytes pc = .ok (.iand, 1))  (hq : pc + 1 = q) (k : own_Go p.tables e below (T.setTop (mkF m q Ls (.int (x &&& y) :: st))) Q) :
    own_Go p.tables e below (T.setTop (mkF m pc Ls (.int y :: .int x :: st))) Q := by
  subst hq
  exact own_go (fun t => XS.iand (own_here A) C.1 rfl (hb C.2.1 hd) rfl) k
theorem own_ior (C : own_Cx Z a0 p l e R s m args below meth c own nm bytes mx ret) (A : own_At p l e R s m args below meth c T h n0 kc ks) {x y : Int32} (hd : decode bytes pc = .ok (.ior, 1))  (hq : pc + 1 = q) (k : own_Go p.tables e below (T.setTop (mkF m q Ls (.int (x ||| y) :: st))) Q) :
    own_Go p.tables e below (T.setTop (mkF m pc Ls (.int y :: .int x :: st))) Q := by
  subst hq
  exact own_go (fun t => XS.ior (own_here A) C.1 rfl (hb C.2.1 hd) rfl) k
theorem own_ixor (C : own_Cx Z a0 p l e R s m args below meth c own nm bytes mx ret) (A : own_At p l e R s m args below meth c T h n0 kc ks) {x y : Int32} (hd : decode bytes pc = .ok (.ixor, 1))  (hq : pc + 1 = q) (k : own_Go p.tables e below (T.setTop (mkF m q Ls (.int (x ^^^ y) :: st))) Q) :
    own_Go p.tables e below (T.setTop (mkF m pc Ls (.int y :: .int x :: st))) Q := by
  subst hq
  exact own_go (fun t => XS.ixor (own_here A) C.1 rfl (hb C.2.1 hd) rfl) k
theorem own_ishl (C : own_Cx Z a0 p l e R s m args below meth c own nm bytes mx ret) (A : own_At p l e R s m args below meth c T h n0 kc ks) {x y : Int32} (hd : decode bytes pc = .ok (.ishl, 1))  (hq : pc + 1 = q) (k : own_Go p.tables e below (T.setTop (mkF m q Ls (.int (x <<< (y &&& 31)) :: st))) Q) :
    own_Go p.tables e below (T.setTop (mkF m pc Ls (.int y :: .int x :: st))) Q := by
  subst hq
  exact own_go (fun t => XS.ishl (own_here A) C.1 rfl (hb C.2.1 hd) rfl) k
theorem own_ishr (C : own_Cx Z a0 p l e R s m args below meth c own nm bytes mx ret) (A : own_At p l e R s m args below meth c T h n0 kc ks) {x y : Int32} (hd : decode bytes pc = .ok (.ishr, 1))  (hq : pc + 1 = q) (k : own_Go p.tables e below (T.setTop (mkF m q Ls (.int (x >>> (y &&& 31)) :: st))) Q) :
    own_Go p.tables e below (T.setTop (mkF m pc Ls (.int y :: .int x :: st))) Q := by
  subst hq
  exact own_go (fun t => XS.ishr (own_here A) C.1 rfl (hb C.2.1 hd) rfl) k
theorem own_iushr (C : own_Cx Z a0 p l e R s m args below meth c own nm bytes mx ret) (A : own_At p l e R s m args below meth c T h n0 kc ks) {x y : Int32} (hd : decode bytes pc = .ok (.iushr, 1))  (hq : pc + 1 = q) (k : own_Go p.tables e below (T.setTop (mkF m q Ls (.int ((x.toUInt32 >>> (y &&& 31).toUInt32).toInt32) :: st))) Q) :
    own_Go p.tables e below (T.setTop (mkF m pc Ls (.int y :: .int x :: st))) Q := by
  subst hq
  exact own_go (fun t => XS.iushr (own_here A) C.1 rfl (hb C.2.1 hd) rfl) k
theorem own_ladd (C : own_Cx Z a0 p l e R s m args below meth c own nm bytes mx ret) (A : own_At p l e R s m args below meth c T h n0 kc ks) {x y : Int64} (hd : decode bytes pc = .ok (.ladd, 1))  (hq : pc + 1 = q) (k : own_Go p.tables e below (T.setTop (mkF m q Ls (.long (x + y) :: st))) Q) :
    own_Go p.tables e below (T.setTop (mkF m pc Ls (.long y :: .long x :: st))) Q := by
  subst hq
  exact own_go (fun t => XS.ladd (own_here A) C.1 rfl (hb C.2.1 hd) rfl) k
theorem own_lsub (C : own_Cx Z a0 p l e R s m args below meth c own nm bytes mx ret) (A : own_At p l e R s m args below meth c T h n0 kc ks) {x y : Int64} (hd : decode bytes pc = .ok (.lsub, 1))  (hq : pc + 1 = q) (k : own_Go p.tables e below (T.setTop (mkF m q Ls (.long (x - y) :: st))) Q) :
    own_Go p.tables e below (T.setTop (mkF m pc Ls (.long y :: .long x :: st))) Q := by
  subst hq
  exact own_go (fun t => XS.lsub (own_here A) C.1 rfl (hb C.2.1 hd) rfl) k
theorem own_lmul (C : own_Cx Z a0 p l e R s m args below meth c own nm bytes mx ret) (A : own_At p l e R s m args below meth c T h n0 kc ks) {x y : Int64} (hd : decode bytes pc = .ok (.lmul, 1))  (hq : pc + 1 = q) (k : own_Go p.tables e below (T.setTop (mkF m q Ls (.long (x * y) :: st))) Q) :
    own_Go p.tables e below (T.setTop (mkF m pc Ls (.long y :: .long x :: st))) Q := by
  subst hq
  exact own_go (fun t => XS.lmul (own_here A) C.1 rfl (hb C.2.1 hd) rfl) k
theorem own_land (C : own_Cx Z a0 p l e R s m args below meth c own nm bytes mx ret) (A : own_At p l e R s m args below meth c T h n0 kc ks) {x y : Int64} (hd : decode bytes pc = .ok (.land, 1))  (hq : pc + 1 = q) (k : own_Go p.tables e below (T.setTop (mkF m q Ls (.long (x &&& y) :: st))) Q) :
    own_Go p.tables e below (T.setTop (mkF m pc Ls (.long y :: .long x :: st))) Q := by
  subst hq
  exact own_go (fun t => XS.land (own_here A) C.1 rfl (hb C.2.1 hd) rfl) k
theorem own_lor (C : own_Cx Z a0 p l e R s m args below meth c own nm bytes mx ret) (A : own_At p l e R s m args below meth c T h n0 kc ks) {x y : Int64} (hd : decode bytes pc = .ok (.lor, 1))  (hq : pc + 1 = q) (k : own_Go p.tables e below (T.setTop (mkF m q Ls (.long (x ||| y) :: st))) Q) :
    own_Go p.tables e below (T.setTop (mkF m pc Ls (.long y :: .long x :: st))) Q := by
  subst hq
  exact own_go (fun t => XS.lor (own_here A) C.1 rfl (hb C.2.1 hd) rfl) k
theorem own_lxor (C : own_Cx Z a0 p l e R s m args below meth c own nm bytes mx ret) (A : own_At p l e R s m args below meth c T h n0 kc ks) {x y : Int64} (hd : decode bytes pc = .ok (.lxor, 1))  (hq : pc + 1 = q) (k : own_Go p.tables e below (T.setTop (mkF m q Ls (.long (x ^^^ y) :: st))) Q) :
    own_Go p.tables e below (T.setTop (mkF m pc Ls (.long y :: .long x :: st))) Q := by
  subst hq
  exact own_go (fun t => XS.lxor (own_here A) C.1 rfl (hb C.2.1 hd) rfl) k
theorem own_lshl (C : own_Cx Z a0 p l e R s m args below meth c own nm bytes mx ret) (A : own_At p l e R s m args below meth c T h n0 kc ks) {x : Int64} {y : Int32} (hd : decode bytes pc = .ok (.lshl, 1))  (hq : pc + 1 = q) (k : own_Go p.tables e below (T.setTop (mkF m q Ls (.long (x <<< (y &&& 0x3f).toInt64) :: st))) Q) :
    own_Go p.tables e below (T.setTop (mkF m pc Ls (.int y :: .long x :: st))) Q := by
  subst hq
  exact own_go (fun t => XS.lshl (own_here A) C.1 rfl (hb C.2.1 hd) rfl) k
theorem own_lshr (C : own_Cx Z a0 p l e R s m args below meth c own nm bytes mx ret) (A : own_At p l e R s m args below meth c T h n0 kc ks) {x : Int64} {y : Int32} (hd : decode bytes pc = .ok (.lshr, 1))  (hq : pc + 1 = q) (k : own_Go p.tables e below (T.setTop (mkF m q Ls (.long (x >>> (y &&& 0x3f).toInt64) :: st))) Q) :
    own_Go p.tables e below (T.setTop (mkF m pc Ls (.int y :: .long x :: st))) Q := by
  subst hq
  exact own_go (fun t => XS.lshr (own_here A) C.1 rfl (hb C.2.1 hd) rfl) k
theorem own_lushr (C : own_Cx Z a0 p l e R s m args below meth c own nm bytes mx ret) (A : own_At p l e R s m args below meth c T h n0 kc ks) {x : Int64} {y : Int32} (hd : decode bytes pc = .ok (.lushr, 1))  (hq : pc + 1 = q) (k : own_Go p.tables e below (T.setTop (mkF m q Ls (.long ((x.toUInt64 >>> (y &&& 0x3f).toInt64.toUInt64).toInt64) :: st))) Q) :
    own_Go p.tables e below (T.setTop (mkF m pc Ls (.int y :: .long x :: st))) Q := by
  subst hq
  exact own_go (fun t => XS.lushr (own_here A) C.1 rfl (hb C.2.1 hd) rfl) k
theorem own_irem (C : own_Cx Z a0 p l e R s m args below meth c own nm bytes mx ret) (A : own_At p l e R s m args below meth c T h n0 kc ks) {x y : Int32} (hd : decode bytes pc = .ok (.irem, 1)) (hy : y ≠ 0) (hq : pc + 1 = q) (k : own_Go p.tables e below (T.setTop (mkF m q Ls (.int (x % y) :: st))) Q) :
    own_Go p.tables e below (T.setTop (mkF m pc Ls (.int y :: .int x :: st))) Q := by
  obtain ⟨_, _, _, X, _⟩ := A
  subst hq
  exact own_go (fun t => iremM (g := mkF m pc Ls (.int y :: .int x :: st)) X C.1 rfl (hb C.2.1 hd) rfl hy) k
theorem own_lrem (C : own_Cx Z a0 p l e R s m args below meth c own nm bytes mx ret) (A : own_At p l e R s m args below meth c T h n0 kc ks) {x y : Int64} (hd : decode bytes pc = .ok (.lrem, 1)) (hy : y ≠ 0) (hq : pc + 1 = q) (k : own_Go p.tables e below (T.setTop (mkF m q Ls (.long (x % y) :: st))) Q) :
    own_Go p.tables e below (T.setTop (mkF m pc Ls (.long y :: .long x :: st))) Q := by
  subst hq
  rw [← lrem_mod x y] at k
  exact own_go (fun t => XS.lrem (own_here A) C.1 rfl (hb C.2.1 hd) rfl hy) k
theorem own_idiv (C : own_Cx Z a0 p l e R s m args below meth c own nm bytes mx ret) (A : own_At p l e R s m args below meth c T h n0 kc ks) {x y : Int32} (hd : decode bytes pc = .ok (.idiv, 1)) (hy : y ≠ 0) (hq : pc + 1 = q) (k : own_Go p.tables e below (T.setTop (mkF m q Ls (.int (x / y) :: st))) Q) :
    own_Go p.tables e below (T.setTop (mkF m pc Ls (.int y :: .int x :: st))) Q := by
  subst hq
  exact own_go (fun t => XS.idiv (own_here A) C.1 rfl (hb C.2.1 hd) rfl hy) k
theorem own_ldiv (C : own_Cx Z a0 p l e R s m args below meth c own nm bytes mx ret) (A : own_At p l e R s m args below meth c T h n0 kc ks) {x y : Int64} (hd : decode bytes pc = .ok (.ldiv, 1)) (hy : y ≠ 0) (hq : pc + 1 = q) (k : own_Go p.tables e below (T.setTop (mkF m q Ls (.long (x / y) :: st))) Q) :
    own_Go p.tables e below (T.setTop (mkF m pc Ls (.long y :: .long x :: st))) Q := by
  subst hq
  exact own_go (fun t => XS.ldiv (own_here A) C.1 rfl (hb C.2.1 hd) rfl hy) k
theorem own_ineg (C : own_Cx Z a0 p l e R s m args below meth c own nm bytes mx ret) (A : own_At p l e R s m args below meth c T h n0 kc ks) {x : Int32} (hd : decode bytes pc = .ok (.ineg, 1))  (hq : pc + 1 = q) (k : own_Go p.tables e below (T.setTop (mkF m q Ls (.int (-x) :: st))) Q) :
    own_Go p.tables e below (T.setTop (mkF m pc Ls (.int x :: st))) Q := by
  subst hq
  exact own_go (fun t => XS.ineg (own_here A) C.1 rfl (hb C.2.1 hd) rfl) k
theorem own_lneg (C : own_Cx Z a0 p l e R s m args below meth c own nm bytes mx ret) (A : own_At p l e R s m args below meth c T h n0 kc ks) {x : Int64} (hd : decode bytes pc = .ok (.lneg, 1))  (hq : pc + 1 = q) (k : own_Go p.tables e below (T.setTop (mkF m q Ls (.long (-x) :: st))) Q) :
    own_Go p.tables e below (T.setTop (mkF m pc Ls (.long x :: st))) Q := by
  subst hq
  exact own_go (fun t => XS.lneg (own_here A) C.1 rfl (hb C.2.1 hd) rfl) k
theorem own_i2b (C : own_Cx Z a0 p l e R s m args below meth c own nm bytes mx ret) (A : own_At p l e R s m args below meth c T h n0 kc ks) {x : Int32} (hd : decode bytes pc = .ok (.i2b, 1))  (hq : pc + 1 = q) (k : own_Go p.tables e below (T.setTop (mkF m q Ls (.int (x.toInt8.toInt32) :: st))) Q) :
    own_Go p.tables e below (T.setTop (mkF m pc Ls (.int x :: st))) Q := by
  subst hq
  exact own_go (fun t => XS.i2b (own_here A) C.1 rfl (hb C.2.1 hd) rfl) k
theorem own_i2c (C : own_Cx Z a0 p l e R s m args below meth c own nm bytes mx ret) (A : own_At p l e R s m args below meth c T h n0 kc ks) {x : Int32} (hd : decode bytes pc = .ok (.i2c, 1))  (hq : pc + 1 = q) (k : own_Go p.tables e below (T.setTop (mkF m q Ls (.int (x.toUInt32.toUInt16.toUInt32.toInt32) :: st))) Q) :
    own_Go p.tables e below (T.setTop (mkF m pc Ls (.int x :: st))) Q := by
  subst hq
  exact own_go (fun t => XS.i2c (own_here A) C.1 rfl (hb C.2.1 hd) rfl) k
theorem own_i2s (C : own_Cx Z a0 p l e R s m args below meth c own nm bytes mx ret) (A : own_At p l e R s m args below meth c T h n0 kc ks) {x : Int32} (hd : decode bytes pc = .ok (.i2s, 1))  (hq : pc + 1 = q) (k : own_Go p.tables e below (T.setTop (mkF m q Ls (.int (x.toInt16.toInt32) :: st))) Q) :
    own_Go p.tables e below (T.setTop (mkF m pc Ls (.int x :: st))) Q := by
  subst hq
  exact own_go (fun t => XS.i2s (own_here A) C.1 rfl (hb C.2.1 hd) rfl) k
theorem own_i2l (C : own_Cx Z a0 p l e R s m args below meth c own nm bytes mx ret) (A : own_At p l e R s m args below meth c T h n0 kc ks) {x : Int32} (hd : decode bytes pc = .ok (.i2l, 1))  (hq : pc + 1 = q) (k : own_Go p.tables e below (T.setTop (mkF m q Ls (.long x.toInt64 :: st))) Q) :
    own_Go p.tables e below (T.setTop (mkF m pc Ls (.int x :: st))) Q := by
  subst hq
  exact own_go (fun t => XS.i2l (own_here A) C.1 rfl (hb C.2.1 hd) rfl) k
theorem own_l2i (C : own_Cx Z a0 p l e R s m args below meth c own nm bytes mx ret) (A : own_At p l e R s m args below meth c T h n0 kc ks) {x : Int64} (hd : decode bytes pc = .ok (.l2i, 1))  (hq : pc + 1 = q) (k : own_Go p.tables e below (T.setTop (mkF m q Ls (.int x.toInt32 :: st))) Q) :
    own_Go p.tables e below (T.setTop (mkF m pc Ls (.long x :: st))) Q := by
  subst hq
  exact own_go (fun t => XS.l2i (own_here A) C.1 rfl (hb C.2.1 hd) rfl) k
theorem own_lcmp (C : own_Cx Z a0 p l e R s m args below meth c own nm bytes mx ret) (A : own_At p l e R s m args below meth c T h n0 kc ks) {x y : Int64} (hd : decode bytes pc = .ok (.lcmp, 1))  (hq : pc + 1 = q) (k : own_Go p.tables e below (T.setTop (mkF m q Ls (.int (Jvm.Free.XT.cmpL x y) :: st))) Q) :
    own_Go p.tables e below (T.setTop (mkF m pc Ls (.long y :: .long x :: st))) Q := by
  subst hq
  exact own_go (fun t => Jvm.Free.XT.lcmp (own_here A) C.1 rfl (hb C.2.1 hd) rfl) k
theorem own_iinc (C : own_Cx Z a0 p l e R s m args below meth c own nm bytes mx ret) (A : own_At p l e R s m args below meth c T h n0 kc ks) {k' : Nat} {i : Int} {x : Int32} {l' : Array Slot} (hd : decode bytes pc = .ok (.iinc k' i, 3)) (hl : Ls[k']? = some (.val (.int x))) (hl' : storeLocals Ls k' (.int (x + Int32.ofInt i)) = some l') (hq : pc + 3 = q) (k : own_Go p.tables e below (T.setTop (mkF m q l' st)) Q) :
    own_Go p.tables e below (T.setTop (mkF m pc Ls st)) Q := by
  subst hq
  exact own_go (fun t => XS.iinc (own_here A) C.1 rfl (hb C.2.1 hd) hl hl') k
theorem own_istoreX (C : own_Cx Z a0 p l e R s m args below meth c own nm bytes mx ret) (A : own_At p l e R s m args below meth c T h n0 kc ks) {k' : Nat} {x : Int32} {o : Slot} {l' : Array Slot} (hd : decode bytes pc = .ok (.istore k', 2)) (hold : Ls[k']? = some o) (ho : One o) (hl : Ls.setIfInBounds k' (.val (.int x)) = l') (hq : pc + 2 = q) (k : own_Go p.tables e below (T.setTop (mkF m q l' st)) Q) :
    own_Go p.tables e below (T.setTop (mkF m pc Ls (.int x :: st))) Q := by
  subst hq hl
  exact own_go (fun t => XS.istoreS (own_here A) C.1 rfl (hb C.2.1 hd) rfl hold ho) k
theorem own_pop (C : own_Cx Z a0 p l e R s m args below meth c own nm bytes mx ret) (A : own_At p l e R s m args below meth c T h n0 kc ks) {x : Value} (hd : decode bytes pc = .ok (.pop, 1)) (hc : x.category = 1) (hq : pc + 1 = q) (k : own_Go p.tables e below (T.setTop (mkF m q Ls st)) Q) :
    own_Go p.tables e below (T.setTop (mkF m pc Ls (x :: st))) Q := by
  subst hq
  exact own_go (fun t => XS.pop (own_here A) C.1 rfl (hb C.2.1 hd) rfl hc) k
theorem own_dup (C : own_Cx Z a0 p l e R s m args below meth c own nm bytes mx ret) (A : own_At p l e R s m args below meth c T h n0 kc ks) {x : Value} (hd : decode bytes pc = .ok (.dup, 1)) (hc : x.category = 1) (hq : pc + 1 = q) (k : own_Go p.tables e below (T.setTop (mkF m q Ls (x :: x :: st))) Q) :
    own_Go p.tables e below (T.setTop (mkF m pc Ls (x :: st))) Q := by
  subst hq
  exact own_go (fun t => XS.dup (own_here A) C.1 rfl (hb C.2.1 hd) rfl hc) k
theorem own_dupX1 (C : own_Cx Z a0 p l e R s m args below meth c own nm bytes mx ret) (A : own_At p l e R s m args below meth c T h n0 kc ks) {x y : Value} (hd : decode bytes pc = .ok (.dup_x1, 1)) (hc : x.category = 1) (hc' : y.category = 1) (hq : pc + 1 = q) (k : own_Go p.tables e below (T.setTop (mkF m q Ls (x :: y :: x :: st))) Q) :
    own_Go p.tables e below (T.setTop (mkF m pc Ls (x :: y :: st))) Q := by
  subst hq
  exact own_go (fun t => XS.dupX1 (own_here A) C.1 rfl (hb C.2.1 hd) rfl hc hc') k
theorem own_dup2L (C : own_Cx Z a0 p l e R s m args below meth c own nm bytes mx ret) (A : own_At p l e R s m args below meth c T h n0 kc ks) {x : Int64} (hd : decode bytes pc = .ok (.dup2, 1))  (hq : pc + 1 = q) (k : own_Go p.tables e below (T.setTop (mkF m q Ls (.long x :: .long x :: st))) Q) :
    own_Go p.tables e below (T.setTop (mkF m pc Ls (.long x :: st))) Q := by
  subst hq
  exact own_go (fun t => Jvm.Free.XT.dup2L (own_here A) C.1 rfl (hb C.2.1 hd) rfl) k
theorem own_dup2 (C : own_Cx Z a0 p l e R s m args below meth c own nm bytes mx ret) (A : own_At p l e R s m args below meth c T h n0 kc ks) {x y : Value} (hd : decode bytes pc = .ok (.dup2, 1)) (hc : x.category = 1) (hc' : y.category = 1) (hq : pc + 1 = q) (k : own_Go p.tables e below (T.setTop (mkF m q Ls (x :: y :: x :: y :: st))) Q) :
    own_Go p.tables e below (T.setTop (mkF m pc Ls (x :: y :: st))) Q := by
  subst hq
  exact own_go (fun t => Jvm.Free.XT.dup2 (own_here A) C.1 rfl (hb C.2.1 hd) rfl hc hc') k
theorem own_goto (C : own_Cx Z a0 p l e R s m args below meth c own nm bytes mx ret) (A : own_At p l e R s m args below meth c T h n0 kc ks) {i : Int} (hd : decode bytes pc = .ok (.goto i, 3)) (ho : 0 ≤ (pc : Int) + i) (hq : ((pc : Int) + i).toNat = q) (k : own_Go p.tables e below (T.setTop (mkF m q Ls st)) Q) :
    own_Go p.tables e below (T.setTop (mkF m pc Ls st)) Q := own_go (fun t => XS.goto (own_here A) C.1 rfl rfl (hb C.2.1 hd) ho hq) k
theorem own_icmpY (C : own_Cx Z a0 p l e R s m args below meth c own nm bytes mx ret) (A : own_At p l e R s m args below meth c T h n0 kc ks) {cd : ClassFile.Cond} {i : Int} {x y : Int32} (hd : decode bytes pc = .ok (.if_icmp cd i, 3)) (hc : if_icmp.holds cd x y = true) (ho : 0 ≤ (pc : Int) + i) (hq : ((pc : Int) + i).toNat = q) (k : own_Go p.tables e below (T.setTop (mkF m q Ls st)) Q) :
    own_Go p.tables e below (T.setTop (mkF m pc Ls (.int y :: .int x :: st))) Q := own_go (fun t => XS.icmpYes (own_here A) C.1 rfl rfl (hb C.2.1 hd) rfl hc ho hq) k
theorem own_icmpN (C : own_Cx Z a0 p l e R s m args below meth c own nm bytes mx ret) (A : own_At p l e R s m args below meth c T h n0 kc ks) {cd : ClassFile.Cond} {i : Int} {x y : Int32} (hd : decode bytes pc = .ok (.if_icmp cd i, 3)) (hc : if_icmp.holds cd x y = false) (hq : pc + 3 = q) (k : own_Go p.tables e below (T.setTop (mkF m q Ls st)) Q) :
    own_Go p.tables e below (T.setTop (mkF m pc Ls (.int y :: .int x :: st))) Q := by
  subst hq
  exact own_go (fun t => XS.icmpNo (own_here A) C.1 rfl (hb C.2.1 hd) rfl hc) k
theorem own_ifY (C : own_Cx Z a0 p l e R s m args below meth c own nm bytes mx ret) (A : own_At p l e R s m args below meth c T h n0 kc ks) {cd : ClassFile.Cond} {i : Int} {x : Int32} (hd : decode bytes pc = .ok (.ifCond cd i, 3)) (hc : ifCond.holds cd x = true) (ho : 0 ≤ (pc : Int) + i) (hq : ((pc : Int) + i).toNat = q) (k : own_Go p.tables e below (T.setTop (mkF m q Ls st)) Q) :
    own_Go p.tables e below (T.setTop (mkF m pc Ls (.int x :: st))) Q := own_go (fun t => XS.ifYes (own_here A) C.1 rfl rfl (hb C.2.1 hd) rfl hc ho hq) k
theorem own_ifN (C : own_Cx Z a0 p l e R s m args below meth c own nm bytes mx ret) (A : own_At p l e R s m args below meth c T h n0 kc ks) {cd : ClassFile.Cond} {i : Int} {x : Int32} (hd : decode bytes pc = .ok (.ifCond cd i, 3)) (hc : ifCond.holds cd x = false) (hq : pc + 3 = q) (k : own_Go p.tables e below (T.setTop (mkF m q Ls st)) Q) :
    own_Go p.tables e below (T.setTop (mkF m pc Ls (.int x :: st))) Q := by
  subst hq
  exact own_go (fun t => XS.ifNo (own_here A) C.1 rfl (hb C.2.1 hd) rfl hc) k
theorem own_ldcI (C : own_Cx Z a0 p l e R s m args below meth c own nm bytes mx ret) (A : own_At p l e R s m args below meth c T h n0 kc ks) {i : Nat} {v : Int32} (w : (Jvm.Cond.constant own i v).before a0 Z = true) (hd : decode bytes pc = .ok (.ldc i, 2)) (hq : pc + 2 = q) (k : own_Go p.tables e below (T.setTop (mkF m q Ls (.int v :: st))) Q) :
    own_Go p.tables e below (T.setTop (mkF m pc Ls st)) Q := by
  obtain ⟨_, _, _, X, _⟩ := A
  subst hq
  exact own_go (X.ldcInt C.1 C.2.2.2.1 (mvT C.2.2.2.2.1 w) (g := mkF m pc Ls st) rfl (hb C.2.1 hd)) k
theorem own_ldcJ (C : own_Cx Z a0 p l e R s m args below meth c own nm bytes mx ret) (A : own_At p l e R s m args below meth c T h n0 kc ks) {i : Nat} {v : Int64} (w : (Jvm.Cond.constantLong own i v).before a0 Z = true) (hd : decode bytes pc = .ok (.ldc2_w i, 3)) (hq : pc + 3 = q) (k : own_Go p.tables e below (T.setTop (mkF m q Ls (.long v :: st))) Q) :
    own_Go p.tables e below (T.setTop (mkF m pc Ls st)) Q := by
  obtain ⟨_, _, _, X, _⟩ := A
  subst hq
  exact own_go (X.ldc2Long C.1 C.2.2.2.1 (mvT C.2.2.2.2.1 w) (g := mkF m pc Ls st) rfl (hb C.2.1 hd)) k
theorem own_retI {z : Int32} (C : own_Cx Z a0 p l e R s m args below meth c own nm bytes mx (some .int)) (A : own_At p l e R s m args below meth c T h n0 kc ks) {P : Option Value → Heap → Prop}  (hd : decode bytes pc = .ok (.ireturn, 1)) (hP : P (some (.int z)) h) :
    own_Go p.tables e below (T.setTop (mkF m pc Ls [.int z])) (own_QR s n0 kc ks P) := by
  obtain ⟨locs, cells, slots, X, eT, N, hc, hs, hn⟩ := A
  have hr' := C.2.2.2.2.2.2.1
  obtain ⟨fs, hr, hrun, hended, hW, hsame⟩ := X.leave (v := (some (.int z))) (fun hh => by first | rfl | (rw [hr'] at hh; cases hh)) C.2.2.2.2.2.2.2.1
  have eF : (T.setFrames fs).heap = h := eT
  exact ⟨_, _, X.ireturnOut C.1 hr' rfl (Or.inl rfl) (hb C.2.1 hd) hr, hrun, hended, _, locs, rfl, ⟨by rw [eF]; exact hP, N⟩, ⟨_, rfl⟩, hW, hsame.mono hc hs⟩
theorem own_retJ {z : Int64} (C : own_Cx Z a0 p l e R s m args below meth c own nm bytes mx (some .long)) (A : own_At p l e R s m args below meth c T h n0 kc ks) {P : Option Value → Heap → Prop}  (hd : decode bytes pc = .ok (.lreturn, 1)) (hP : P (some (.long z)) h) :
    own_Go p.tables e below (T.setTop (mkF m pc Ls [.long z])) (own_QR s n0 kc ks P) := by
  obtain ⟨locs, cells, slots, X, eT, N, hc, hs, hn⟩ := A
  have hr' := C.2.2.2.2.2.2.1
  obtain ⟨fs, hr, hrun, hended, hW, hsame⟩ := X.leave (v := (some (.long z))) (fun hh => by first | rfl | (rw [hr'] at hh; cases hh)) C.2.2.2.2.2.2.2.1
  have eF : (T.setFrames fs).heap = h := eT
  exact ⟨_, _, X.lreturnOut C.1 hr' (hb C.2.1 hd) hr, hrun, hended, _, locs, rfl, ⟨by rw [eF]; exact hP, N⟩, ⟨_, rfl⟩, hW, hsame.mono hc hs⟩
theorem own_retA {a : Addr} {t : FieldType} (C : own_Cx Z a0 p l e R s m args below meth c own nm bytes mx (some t)) (A : own_At p l e R s m args below meth c T h n0 kc ks) {P : Option Value → Heap → Prop} (hta : t.isReference = true) (hna : narrow t (.ref a) = .ref a) (hd : decode bytes pc = .ok (.areturn, 1)) (hP : P (some (.ref a)) h) :
    own_Go p.tables e below (T.setTop (mkF m pc Ls (.ref a :: st))) (own_QR s n0 kc ks P) := by
  obtain ⟨locs, cells, slots, X, eT, N, hc, hs, hn⟩ := A
  have hr' := C.2.2.2.2.2.2.1
  obtain ⟨fs, hr, hrun, hended, hW, hsame⟩ := X.leave (v := (some (.ref a))) (fun hh => by first | rfl | (rw [hr'] at hh; cases hh)) C.2.2.2.2.2.2.2.1
  have eF : (T.setFrames fs).heap = h := eT
  exact ⟨_, _, retOut X C.1 hr' hna (Or.inr (Or.inr (Or.inr (Or.inr ⟨rfl, hta, rfl⟩)))) (hb C.2.1 hd) hr, hrun, hended, _, locs, rfl, ⟨by rw [eF]; exact hP, N⟩, ⟨_, rfl⟩, hW, hsame.mono hc hs⟩
theorem own_ret0  (C : own_Cx Z a0 p l e R s m args below meth c own nm bytes mx none) (A : own_At p l e R s m args below meth c T h n0 kc ks) {P : Option Value → Heap → Prop}  (hd : decode bytes pc = .ok (.return_, 1)) (hP : P none h) :
    own_Go p.tables e below (T.setTop (mkF m pc Ls [])) (own_QR s n0 kc ks P) := by
  obtain ⟨locs, cells, slots, X, eT, N, hc, hs, hn⟩ := A
  have hr' := C.2.2.2.2.2.2.1
  obtain ⟨fs, hr, hrun, hended, hW, hsame⟩ := X.leave (v := none) (fun hh => by first | rfl | (rw [hr'] at hh; cases hh)) C.2.2.2.2.2.2.2.1
  have eF : (T.setFrames fs).heap = h := eT
  exact ⟨_, _, X.returnOut C.1 hr' (hb C.2.1 hd) hr, hrun, hended, _, locs, rfl, ⟨by rw [eF]; exact hP, N⟩, ⟨_, rfl⟩, hW, hsame.mono hc hs⟩
theorem own_retN {z : Int32} {t : FieldType} (C : own_Cx Z a0 p l e R s m args below meth c own nm bytes mx (some t)) (A : own_At p l e R s m args below meth c T h n0 kc ks) {P : Option Value → Heap → Prop} (ht : t = .boolean ∨ t = .byte ∨ t = .char ∨ t = .short) (hd : decode bytes pc = .ok (.ireturn, 1)) (hP : P (some (.int (nar t z))) h) :
    own_Go p.tables e below (T.setTop (mkF m pc Ls (.int z :: st))) (own_QR s n0 kc ks P) := by
  obtain ⟨locs, cells, slots, X, eT, N, hc, hs, hn⟩ := A
  have hr' := C.2.2.2.2.2.2.1
  obtain ⟨fs, hr, hrun, hended, hW, hsame⟩ := X.leave (v := (some (.int (nar t z)))) (fun hh => by first | rfl | (rw [hr'] at hh; cases hh)) C.2.2.2.2.2.2.2.1
  have eF : (T.setFrames fs).heap = h := eT
  exact ⟨_, _, retN X C.1 hr' ht (hb C.2.1 hd) hr, hrun, hended, _, locs, rfl, ⟨by rw [eF]; exact hP, N⟩, ⟨_, rfl⟩, hW, hsame.mono hc hs⟩
theorem own_met {y : MethodName} {ws : List Jvm.Cond} {as' : Array Value} {P : Option Value → Heap → Prop} (hpl : plainFor y = true) (hw : ∀ d ∈ tables_1, d.before a0 Z = true) (hn : n0 ≤ h.size) (hef : ∀ m, entryFrame m as' mx = mkF m 0 Ls [])
    (body : ∀ p e s m below meth c T, own_Cx Z a0 p l e R s m as' below meth c y.cls y.name bytes mx ret → own_At p l e R s m as' below meth c T h n0 0 0 → own_Go p.tables e below (T.setTop (mkF m 0 Ls [])) (own_QR s n0 kc ks P)) :
    MetFree l y (head1 (Jvm.Cond.code y bytes mx ret :: ws) R) (fun a U => a = as' ∧ Z.Warmed39 U.vm ∧ U.heap = h) (fun _ _ _ _ _ => True) (fun _ U o U' => own_QR U n0 kc ks P o U') := by
  refine MetFree.of_bodySF hpl hisR ?_
  intro p e s m args below meth c s₁ Bd hml0 hP hK
  obtain ⟨rfl, hZ, hh⟩ := hP
  have C : own_Cx Z a0 p l e R s m args below meth c y.cls y.name bytes mx ret := ⟨Bd.exec, Bd.bytes, hml0, findClass_of_methodNamed Bd.named, hZ, (name_of_methodNamed Bd.named Bd.method).1, Bd.returns, Bd.notSynchronized, hw⟩
  have A : own_At p l e R s m args below meth c s₁ h n0 0 0 := ⟨[], 0, 0, Stand.of_body Bd, by rw [← hh, Bd.state]; rfl, Fr.nil n0, Nat.le_refl _, Nat.le_refl _, hn⟩
  have k := body p e s m below meth c s₁ C A
  rw [← hef m] at k
  exact k
theorem own_backQ {y : MethodName} {by' : ByteArray} {mx' : Nat} {rt : Option FieldType} {rm : Room} {as' : Array Value} {P : Option Value → Heap → Prop} (hM : MetFree l y (head1 [Jvm.Cond.code y by' mx' rt] rm) (fun a U => a = as' ∧ Z.Warmed39 U.vm ∧ U.heap = h) (fun _ _ _ _ _ => True) (fun _ U o U' => own_QR U n0 rm.cells rm.slots P o U')) :
    MetFree l y (head1 [Jvm.Cond.code y by' mx' rt] rm) (fun a U => a = as' ∧ Z.Warmed39 U.vm ∧ U.heap = h) (fun _ _ _ _ _ => True) (fun _ U o U' => ∃ v L, o = .returned v ∧ (P v U'.heap ∧ Fr n0 L ∧ h.size ≤ U'.heap.size) ∧ FrameEnd U o U' L rm.cells rm.slots) := by
  intro p e ha hc hk s m args below hf happ hP hK
  obtain ⟨n, o, h1, h2, h3, v, L, e1, ⟨hp, hl⟩, hF⟩ := hM p e ha hc hk s m args below hf happ hP hK
  refine ⟨n, o, h1, h2, h3, v, L, e1, ⟨hp, hl, ?_⟩, hF⟩
  have := hF.2.2.2.1
  rw [← hP.2.2]
  exact this
theorem own_callS (C : own_Cx Z a0 p l e R s m args below meth c own nm bytes mx ret) (A : own_At p l e R s m args below meth c T h n0 kc ks) {i : Nat} {y : MethodName} {by' : ByteArray} {mx' : Nat} {rt : Option FieldType} {rm : Room} (W : Nat) {as' : Array Value} (argsL rest : List Value) {P : Option Value → Heap → Prop} (w1 : (Jvm.Cond.methodLink own i y).before a0 Z = true) (w2 : (Jvm.Cond.static y).before a0 Z = true) (w3 : (Jvm.Cond.initialized y.cls).before a0 Z = true) (w4 : (Jvm.Cond.code y by' mx' rt).before a0 Z = true) (hy : y.cls ≠ "java/lang/invoke/MethodHandle" ∧ y.cls ≠ "java/lang/invoke/VarHandle")
    (hM : MetFree l y (head1 [Jvm.Cond.code y by' mx' rt] rm) (fun a U => a = as' ∧ Z.Warmed39 U.vm ∧ U.heap = h) (fun _ _ _ _ _ => True) (fun _ U o U' => own_QR U n0 rm.cells rm.slots P o U'))
    (hf : rm.frames + 1 ≤ R.frames) (hl : W + (mx' + 11) + rm.locals ≤ R.locals) (hc : kc + rm.cells ≤ R.cells) (hs : ks + rm.slots ≤ R.slots) {ps : List FieldType} (hpd : parseMethodDescriptor y.desc = some ⟨ps, rt⟩) (hlen : argsL.length = ps.length) (has : argsL.toArray = as') (hst : st = argsL.reverse ++ rest) (hW : (rest.map fun v => v.category).sum ≤ W) (hsz : Ls.size = mx) (hd : decode bytes pc = .ok (.invokestatic i, 3)) (hq : pc + 3 = q)
    (k : ∀ v T' h', P v h' → own_At p l e R s m args below meth c T' h' n0 (kc + rm.cells) (ks + rm.slots) → own_Go p.tables e below (T'.setTop (mkF m q Ls (v.toList ++ rest))) Q) :
    own_Go p.tables e below (T.setTop (mkF m pc Ls st)) Q := by
  obtain ⟨locs, cells, slots, X, eT, N, hc', hs', hn⟩ := A
  obtain ⟨v, _, ⟨T', L', k', n'⟩, -, X', ⟨Lc, hQ, hB1, hB2, hB3⟩, st'⟩ := Jvm.LawKit.callS X C.1 (y := y) C.2.2.2.1 (mvT C.2.2.2.2.1 w1) (mvT C.2.2.2.2.1 w2) (mvT C.2.2.2.2.1 w3) (mvT C.2.2.2.2.1 w4) hy (backOf (W := W) (Q := fun v h' L => P v h' ∧ Fr n0 L ∧ h.size ≤ h'.size) (own_backQ hM) C.2.2.2.2.1 w4 w3 hf hl) (g := mkF m pc Ls st) rfl (by rw [C.2.2.1]; exact hsz) (argsL := argsL) (rest := rest) (lenOf hpd hlen) hst (by show 2 * 0 + _ ≤ _; omega) (hb C.2.1 hd) (fun _ _ => ⟨has, eT, Nat.le_trans (Nat.add_le_add_right hc' _) hc, Nat.le_trans (Nat.add_le_add_right hs' _) hs⟩)
  dsimp only [Pt.U, Pt.locs, Pt.cells, Pt.slots] at X' hB1 hB2 hB3 st' hQ
  subst hq hB1 hB2 hB3
  exact own_go st' (k v T' T'.heap hQ.1 ⟨_, _, _, X', rfl, N.app hQ.2.1, by omega, by omega, Nat.le_trans hn hQ.2.2⟩)
theorem own_callC (C : own_Cx Z a0 p l e R s m args below meth c own nm bytes mx ret) (A : own_At p l e R s m args below meth c T h n0 kc ks) {i : Nat} {y : MethodName} {by' : ByteArray} {mx' : Nat} {rm : Room} (W : Nat) {as' : Array Value} (argsL rest : List Value) {P : Option Value → Heap → Prop} {a : Addr} (hy1 : y.name = "<init>") (w1 : (Jvm.Cond.methodLink own i y).before a0 Z = true) (w2 : (Jvm.Cond.instanceMethod y).before a0 Z = true) (w3 : (Jvm.Cond.initialized y.cls).before a0 Z = true) (w4 : (Jvm.Cond.code y by' mx' none).before a0 Z = true) (hy : y.cls ≠ "java/lang/invoke/MethodHandle" ∧ y.cls ≠ "java/lang/invoke/VarHandle")
    (hM : MetFree l y (head1 [Jvm.Cond.code y by' mx' none] rm) (fun a U => a = as' ∧ Z.Warmed39 U.vm ∧ U.heap = h) (fun _ _ _ _ _ => True) (fun _ U o U' => own_QR U n0 rm.cells rm.slots P o U'))
    (hf : rm.frames + 1 ≤ R.frames) (hl : W + (mx' + 11) + rm.locals ≤ R.locals) (hc : kc + rm.cells ≤ R.cells) (hs : ks + rm.slots ≤ R.slots) {ps : List FieldType} (hpd : parseMethodDescriptor y.desc = some ⟨ps, none⟩) (hlen : argsL.length = ps.length) (has : (Value.ref a :: argsL).toArray = as') (hst : st = argsL.reverse ++ .ref a :: rest) (hW : (rest.map fun v => v.category).sum ≤ W) (hsz : Ls.size = mx) (hd : decode bytes pc = .ok (.invokespecial i, 3)) (hq : pc + 3 = q)
    (k : ∀ v T' h', P v h' → own_At p l e R s m args below meth c T' h' n0 (kc + rm.cells) (ks + rm.slots) → own_Go p.tables e below (T'.setTop (mkF m q Ls (v.toList ++ rest))) Q) :
    own_Go p.tables e below (T.setTop (mkF m pc Ls st)) Q := by
  obtain ⟨locs, cells, slots, X, eT, N, hc', hs', hn⟩ := A
  obtain ⟨v, _, ⟨T', L', k', n'⟩, -, X', ⟨Lc, hQ, hB1, hB2, hB3⟩, st'⟩ := X.specialBack C.1 (y := y) hy1 C.2.2.2.1 (mvT C.2.2.2.2.1 w1) (mvT C.2.2.2.2.1 w2) (mvT C.2.2.2.2.1 w4) hy (backOf (W := W) (Q := fun v h' L => P v h' ∧ Fr n0 L ∧ h.size ≤ h'.size) (own_backQ hM) C.2.2.2.2.1 w4 w3 hf hl) (g := mkF m pc Ls st) rfl (by rw [C.2.2.1]; exact hsz) (Steps.refl _) (a := a) (argsL := argsL) (rest := rest) (lenOf hpd hlen) hst (by show 2 * 0 + _ ≤ _; omega) (hb C.2.1 hd) (fun _ _ => ⟨has, eT, Nat.le_trans (Nat.add_le_add_right hc' _) hc, Nat.le_trans (Nat.add_le_add_right hs' _) hs⟩)
  dsimp only [Pt.U, Pt.locs, Pt.cells, Pt.slots] at X' hB1 hB2 hB3 st' hQ
  subst hq hB1 hB2 hB3
  exact own_go (fun t ht => st'.trans ht) (k v T' T'.heap hQ.1 ⟨_, _, _, X', rfl, N.app hQ.2.1, by omega, by omega, Nat.le_trans hn hQ.2.2⟩)
theorem own_callV (C : own_Cx Z a0 p l e R s m args below meth c own nm bytes mx ret) (A : own_At p l e R s m args below meth c T h n0 kc ks) {i : Nat} {y : MethodName} {by' : ByteArray} {mx' : Nat} {rt : Option FieldType} {rm : Room} (W : Nat) {as' : Array Value} (argsL rest : List Value) {P : Option Value → Heap → Prop} {a : Addr} {B : String} (w1 : (Jvm.Cond.methodLink own i y).before a0 Z = true) (w2 : (Jvm.Cond.declares y).before a0 Z = true) (w5 : (Jvm.Cond.selects B y y).before a0 Z = true) (w6 : (Jvm.Cond.instanceMethod y).before a0 Z = true) (w3 : (Jvm.Cond.initialized y.cls).before a0 Z = true) (w4 : (Jvm.Cond.code y by' mx' rt).before a0 Z = true) (hy : y.cls ≠ "java/lang/invoke/MethodHandle" ∧ y.cls ≠ "java/lang/invoke/VarHandle") (hBy : y.cls = B) (E : Exa Z h a B)
    (hM : MetFree l y (head1 [Jvm.Cond.code y by' mx' rt] rm) (fun a U => a = as' ∧ Z.Warmed39 U.vm ∧ U.heap = h) (fun _ _ _ _ _ => True) (fun _ U o U' => own_QR U n0 rm.cells rm.slots P o U'))
    (hf : rm.frames + 1 ≤ R.frames) (hl : W + (mx' + 11) + rm.locals ≤ R.locals) (hc : kc + rm.cells ≤ R.cells) (hs : ks + rm.slots ≤ R.slots) {ps : List FieldType} (hpd : parseMethodDescriptor y.desc = some ⟨ps, rt⟩) (hlen : argsL.length = ps.length) (has : (Value.ref a :: argsL).toArray = as') (hst : st = argsL.reverse ++ .ref a :: rest) (hW : (rest.map fun v => v.category).sum ≤ W) (hsz : Ls.size = mx) (hd : decode bytes pc = .ok (.invokevirtual i, 3)) (hq : pc + 3 = q)
    (k : ∀ v T' h', P v h' → own_At p l e R s m args below meth c T' h' n0 (kc + rm.cells) (ks + rm.slots) → own_Go p.tables e below (T'.setTop (mkF m q Ls (v.toList ++ rest))) Q) :
    own_Go p.tables e below (T.setTop (mkF m pc Ls st)) Q := by
  obtain ⟨locs, cells, slots, X, eT, N, hc', hs', hn⟩ := A
  subst hBy
  obtain ⟨cB, kB, qa, qb, qc⟩ := isOf (T := T) C.2.2.2.2.1 eT E
  obtain ⟨v, _, ⟨T', L', k', n'⟩, -, X', ⟨Lc, hQ, hB1, hB2, hB3⟩, st'⟩ := X.virtualBack C.1 (y := y) (z := y) C.2.2.2.1 (mvT C.2.2.2.2.1 w1) (mvT C.2.2.2.2.1 w2) (notFace_of_selects (args := #[]) (mvT C.2.2.2.2.1 w5)) (mvT C.2.2.2.2.1 w5) (mvT C.2.2.2.2.1 w6) hy (backOf (W := W) (Q := fun v h' L => P v h' ∧ Fr n0 L ∧ h.size ≤ h'.size) (own_backQ hM) C.2.2.2.2.1 w4 w3 hf hl) qa qc (g := mkF m pc Ls st) rfl (by rw [C.2.2.1]; exact hsz) (Steps.refl _) (argsL := argsL) (rest := rest) (lenOf hpd hlen) hst (by show 2 * 0 + _ ≤ _; omega) (hb C.2.1 hd) (fun _ _ => ⟨has, eT, Nat.le_trans (Nat.add_le_add_right hc' _) hc, Nat.le_trans (Nat.add_le_add_right hs' _) hs⟩)
  dsimp only [Pt.U, Pt.locs, Pt.cells, Pt.slots] at X' hB1 hB2 hB3 st' hQ
  subst hq hB1 hB2 hB3
  exact own_go (fun t ht => st'.trans ht) (k v T' T'.heap hQ.1 ⟨_, _, _, X', rfl, N.app hQ.2.1, by omega, by omega, Nat.le_trans hn hQ.2.2⟩)
theorem own_callP (C : own_Cx Z a0 p l e R s m args below meth c own nm bytes mx ret) (A : own_At p l e R s m args below meth c T h n0 kc ks) {i : Nat} {y : MethodName} {by' : ByteArray} {mx' : Nat} {rt : Option FieldType} {rm : Room} (W : Nat) {as' : Array Value} (argsL rest : List Value) {P : Option Value → Heap → Prop} {a : Addr} {B : String} {kk : Nat} (w1 : (Jvm.Cond.methodLink own i y).before a0 Z = true) (w6 : (Jvm.Cond.instanceMethod y).before a0 Z = true) (wp : (Jvm.Cond.privateMethod y).before a0 Z = true) (wi : (Jvm.Cond.instantiable y.cls kk).before a0 Z = true) (w3 : (Jvm.Cond.initialized y.cls).before a0 Z = true) (w4 : (Jvm.Cond.code y by' mx' rt).before a0 Z = true) (hy : y.cls ≠ "java/lang/invoke/MethodHandle" ∧ y.cls ≠ "java/lang/invoke/VarHandle") (E : Exa Z h a B)
    (hM : MetFree l y (head1 [Jvm.Cond.code y by' mx' rt] rm) (fun a U => a = as' ∧ Z.Warmed39 U.vm ∧ U.heap = h) (fun _ _ _ _ _ => True) (fun _ U o U' => own_QR U n0 rm.cells rm.slots P o U'))
    (hf : rm.frames + 1 ≤ R.frames) (hl : W + (mx' + 11) + rm.locals ≤ R.locals) (hc : kc + rm.cells ≤ R.cells) (hs : ks + rm.slots ≤ R.slots) {ps : List FieldType} (hpd : parseMethodDescriptor y.desc = some ⟨ps, rt⟩) (hlen : argsL.length = ps.length) (has : (Value.ref a :: argsL).toArray = as') (hst : st = argsL.reverse ++ .ref a :: rest) (hW : (rest.map fun v => v.category).sum ≤ W) (hsz : Ls.size = mx) (hd : decode bytes pc = .ok (.invokevirtual i, 3)) (hq : pc + 3 = q)
    (k : ∀ v T' h', P v h' → own_At p l e R s m args below meth c T' h' n0 (kc + rm.cells) (ks + rm.slots) → own_Go p.tables e below (T'.setTop (mkF m q Ls (v.toList ++ rest))) Q) :
    own_Go p.tables e below (T.setTop (mkF m pc Ls st)) Q := by
  obtain ⟨locs, cells, slots, X, eT, N, hc', hs', hn⟩ := A
  obtain ⟨cl, hcell, hobj⟩ := Exa.cell E
  have hpr : s.PrivateAt y := Cond.privateMethod_at (mvP C.2.2.2.2.1 wp (args := #[]))
  have wi' : (Jvm.Cond.instantiable y.cls kk).before args s = true := mvT C.2.2.2.2.1 wi
  have w6' : (Jvm.Cond.instanceMethod y).before args s = true := mvT C.2.2.2.2.1 w6
  obtain ⟨cc, kc', q1, q2, -, q4, -⟩ := Cond.instantiable_spec wi'
  have hsel : (Jvm.Cond.selects y.cls y y).before args s = true := Jvm.Stand.selects_self_of_private q1 q2 (Bool.or_eq_false_iff.mp q4).1 hpr w6' hy
  obtain ⟨v, _, ⟨T', L', k', n'⟩, -, X', ⟨Lc, hQ, hB1, hB2, hB3⟩, st'⟩ := X.privateBack C.1 (y := y) C.2.2.2.1 (mvT C.2.2.2.2.1 w1) w6' hsel hpr (mvT C.2.2.2.2.1 w4) hy (backOf (W := W) (Q := fun v h' L => P v h' ∧ Fr n0 L ∧ h.size ≤ h'.size) (own_backQ hM) C.2.2.2.2.1 w4 w3 hf hl) (g := mkF m pc Ls st) rfl (by rw [C.2.2.1]; exact hsz) (Steps.refl _) (a := a) (by rw [eT]; exact hcell) hobj (argsL := argsL) (rest := rest) (lenOf hpd hlen) hst (by show 2 * 0 + _ ≤ _; omega) (hb C.2.1 hd) (fun _ _ => ⟨has, eT, Nat.le_trans (Nat.add_le_add_right hc' _) hc, Nat.le_trans (Nat.add_le_add_right hs' _) hs⟩)
  dsimp only [Pt.U, Pt.locs, Pt.cells, Pt.slots] at X' hB1 hB2 hB3 st' hQ
  subst hq hB1 hB2 hB3
  exact own_go (fun t ht => st'.trans ht) (k v T' T'.heap hQ.1 ⟨_, _, _, X', rfl, N.app hQ.2.1, by omega, by omega, Nat.le_trans hn hQ.2.2⟩)
theorem own_callSI (C : own_Cx Z a0 p l e R s m args below meth c own nm bytes mx ret) (A : own_At p l e R s m args below meth c T h n0 kc ks) {i : Nat} {y : MethodName} {by' : ByteArray} {mx' : Nat} {rt : Option FieldType} {rm : Room} (W : Nat) {as' : Array Value} (argsL rest : List Value) {r : Int32} (w1 : (Jvm.Cond.methodLink own i y).before a0 Z = true) (w2 : (Jvm.Cond.static y).before a0 Z = true) (w3 : (Jvm.Cond.initialized y.cls).before a0 Z = true) (w4 : (Jvm.Cond.code y by' mx' rt).before a0 Z = true) (hy : y.cls ≠ "java/lang/invoke/MethodHandle" ∧ y.cls ≠ "java/lang/invoke/VarHandle")
    (hM : MetFree l y (head1 [Jvm.Cond.code y by' mx' rt] rm) (fun a U => a = as' ∧ Z.Warmed39 U.vm ∧ U.heap = h) (fun _ _ _ _ _ => True) (fun _ U o U' => own_QR U n0 rm.cells rm.slots (own_RI h r) o U'))
    (h0c : rm.cells = 0) (h0s : rm.slots = 0) (hf : rm.frames + 1 ≤ R.frames) (hl : W + (mx' + 11) + rm.locals ≤ R.locals) (hc : kc + rm.cells ≤ R.cells) (hs : ks + rm.slots ≤ R.slots) {ps : List FieldType} (hpd : parseMethodDescriptor y.desc = some ⟨ps, rt⟩) (hlen : argsL.length = ps.length) (has : argsL.toArray = as') (hst : st = argsL.reverse ++ rest) (hW : (rest.map fun v => v.category).sum ≤ W) (hsz : Ls.size = mx) (hd : decode bytes pc = .ok (.invokestatic i, 3)) (hq : pc + 3 = q)
    (k : ∀ T', own_At p l e R s m args below meth c T' h n0 kc ks → own_Go p.tables e below (T'.setTop (mkF m q Ls (.int r :: rest))) Q) :
    own_Go p.tables e below (T.setTop (mkF m pc Ls st)) Q := by
  refine own_callS C A W argsL rest w1 w2 w3 w4 hy hM hf hl hc hs hpd hlen has hst hW hsz hd hq (fun v T' h' hP A' => ?_)
  obtain ⟨rfl, rfl⟩ := hP
  rw [h0c, h0s] at A'
  exact k T' A'
theorem own_callSJ (C : own_Cx Z a0 p l e R s m args below meth c own nm bytes mx ret) (A : own_At p l e R s m args below meth c T h n0 kc ks) {i : Nat} {y : MethodName} {by' : ByteArray} {mx' : Nat} {rt : Option FieldType} {rm : Room} (W : Nat) {as' : Array Value} (argsL rest : List Value) {r : Int64} (w1 : (Jvm.Cond.methodLink own i y).before a0 Z = true) (w2 : (Jvm.Cond.static y).before a0 Z = true) (w3 : (Jvm.Cond.initialized y.cls).before a0 Z = true) (w4 : (Jvm.Cond.code y by' mx' rt).before a0 Z = true) (hy : y.cls ≠ "java/lang/invoke/MethodHandle" ∧ y.cls ≠ "java/lang/invoke/VarHandle")
    (hM : MetFree l y (head1 [Jvm.Cond.code y by' mx' rt] rm) (fun a U => a = as' ∧ Z.Warmed39 U.vm ∧ U.heap = h) (fun _ _ _ _ _ => True) (fun _ U o U' => own_QR U n0 rm.cells rm.slots (own_RJ h r) o U'))
    (h0c : rm.cells = 0) (h0s : rm.slots = 0) (hf : rm.frames + 1 ≤ R.frames) (hl : W + (mx' + 11) + rm.locals ≤ R.locals) (hc : kc + rm.cells ≤ R.cells) (hs : ks + rm.slots ≤ R.slots) {ps : List FieldType} (hpd : parseMethodDescriptor y.desc = some ⟨ps, rt⟩) (hlen : argsL.length = ps.length) (has : argsL.toArray = as') (hst : st = argsL.reverse ++ rest) (hW : (rest.map fun v => v.category).sum ≤ W) (hsz : Ls.size = mx) (hd : decode bytes pc = .ok (.invokestatic i, 3)) (hq : pc + 3 = q)
    (k : ∀ T', own_At p l e R s m args below meth c T' h n0 kc ks → own_Go p.tables e below (T'.setTop (mkF m q Ls (.long r :: rest))) Q) :
    own_Go p.tables e below (T.setTop (mkF m pc Ls st)) Q := by
  refine own_callS C A W argsL rest w1 w2 w3 w4 hy hM hf hl hc hs hpd hlen has hst hW hsz hd hq (fun v T' h' hP A' => ?_)
  obtain ⟨rfl, rfl⟩ := hP
  rw [h0c, h0s] at A'
  exact k T' A'
theorem own_callVI (C : own_Cx Z a0 p l e R s m args below meth c own nm bytes mx ret) (A : own_At p l e R s m args below meth c T h n0 kc ks) {i : Nat} {y : MethodName} {by' : ByteArray} {mx' : Nat} {rt : Option FieldType} {rm : Room} (W : Nat) {as' : Array Value} (argsL rest : List Value) {r : Int32} {a : Addr} {B : String} (w1 : (Jvm.Cond.methodLink own i y).before a0 Z = true) (w2 : (Jvm.Cond.declares y).before a0 Z = true) (w5 : (Jvm.Cond.selects B y y).before a0 Z = true) (w6 : (Jvm.Cond.instanceMethod y).before a0 Z = true) (w3 : (Jvm.Cond.initialized y.cls).before a0 Z = true) (w4 : (Jvm.Cond.code y by' mx' rt).before a0 Z = true) (hy : y.cls ≠ "java/lang/invoke/MethodHandle" ∧ y.cls ≠ "java/lang/invoke/VarHandle") (hBy : y.cls = B) (E : Exa Z h a B)
    (hM : MetFree l y (head1 [Jvm.Cond.code y by' mx' rt] rm) (fun a U => a = as' ∧ Z.Warmed39 U.vm ∧ U.heap = h) (fun _ _ _ _ _ => True) (fun _ U o U' => own_QR U n0 rm.cells rm.slots (own_RI h r) o U'))
    (h0c : rm.cells = 0) (h0s : rm.slots = 0) (hf : rm.frames + 1 ≤ R.frames) (hl : W + (mx' + 11) + rm.locals ≤ R.locals) (hc : kc + rm.cells ≤ R.cells) (hs : ks + rm.slots ≤ R.slots) {ps : List FieldType} (hpd : parseMethodDescriptor y.desc = some ⟨ps, rt⟩) (hlen : argsL.length = ps.length) (has : (Value.ref a :: argsL).toArray = as') (hst : st = argsL.reverse ++ .ref a :: rest) (hW : (rest.map fun v => v.category).sum ≤ W) (hsz : Ls.size = mx) (hd : decode bytes pc = .ok (.invokevirtual i, 3)) (hq : pc + 3 = q)
    (k : ∀ T', own_At p l e R s m args below meth c T' h n0 kc ks → own_Go p.tables e below (T'.setTop (mkF m q Ls (.int r :: rest))) Q) :
    own_Go p.tables e below (T.setTop (mkF m pc Ls st)) Q := by
  refine own_callV C A W argsL rest w1 w2 w5 w6 w3 w4 hy hBy E hM hf hl hc hs hpd hlen has hst hW hsz hd hq (fun v T' h' hP A' => ?_)
  obtain ⟨rfl, rfl⟩ := hP
  rw [h0c, h0s] at A'
  exact k T' A'
theorem own_callVJ (C : own_Cx Z a0 p l e R s m args below meth c own nm bytes mx ret) (A : own_At p l e R s m args below meth c T h n0 kc ks) {i : Nat} {y : MethodName} {by' : ByteArray} {mx' : Nat} {rt : Option FieldType} {rm : Room} (W : Nat) {as' : Array Value} (argsL rest : List Value) {r : Int64} {a : Addr} {B : String} (w1 : (Jvm.Cond.methodLink own i y).before a0 Z = true) (w2 : (Jvm.Cond.declares y).before a0 Z = true) (w5 : (Jvm.Cond.selects B y y).before a0 Z = true) (w6 : (Jvm.Cond.instanceMethod y).before a0 Z = true) (w3 : (Jvm.Cond.initialized y.cls).before a0 Z = true) (w4 : (Jvm.Cond.code y by' mx' rt).before a0 Z = true) (hy : y.cls ≠ "java/lang/invoke/MethodHandle" ∧ y.cls ≠ "java/lang/invoke/VarHandle") (hBy : y.cls = B) (E : Exa Z h a B)
    (hM : MetFree l y (head1 [Jvm.Cond.code y by' mx' rt] rm) (fun a U => a = as' ∧ Z.Warmed39 U.vm ∧ U.heap = h) (fun _ _ _ _ _ => True) (fun _ U o U' => own_QR U n0 rm.cells rm.slots (own_RJ h r) o U'))
    (h0c : rm.cells = 0) (h0s : rm.slots = 0) (hf : rm.frames + 1 ≤ R.frames) (hl : W + (mx' + 11) + rm.locals ≤ R.locals) (hc : kc + rm.cells ≤ R.cells) (hs : ks + rm.slots ≤ R.slots) {ps : List FieldType} (hpd : parseMethodDescriptor y.desc = some ⟨ps, rt⟩) (hlen : argsL.length = ps.length) (has : (Value.ref a :: argsL).toArray = as') (hst : st = argsL.reverse ++ .ref a :: rest) (hW : (rest.map fun v => v.category).sum ≤ W) (hsz : Ls.size = mx) (hd : decode bytes pc = .ok (.invokevirtual i, 3)) (hq : pc + 3 = q)
    (k : ∀ T', own_At p l e R s m args below meth c T' h n0 kc ks → own_Go p.tables e below (T'.setTop (mkF m q Ls (.long r :: rest))) Q) :
    own_Go p.tables e below (T.setTop (mkF m pc Ls st)) Q := by
  refine own_callV C A W argsL rest w1 w2 w5 w6 w3 w4 hy hBy E hM hf hl hc hs hpd hlen has hst hW hsz hd hq (fun v T' h' hP A' => ?_)
  obtain ⟨rfl, rfl⟩ := hP
  rw [h0c, h0s] at A'
  exact k T' A'
theorem own_callPI (C : own_Cx Z a0 p l e R s m args below meth c own nm bytes mx ret) (A : own_At p l e R s m args below meth c T h n0 kc ks) {i : Nat} {y : MethodName} {by' : ByteArray} {mx' : Nat} {rt : Option FieldType} {rm : Room} (W : Nat) {as' : Array Value} (argsL rest : List Value) {r : Int32} {a : Addr} {B : String} {kk : Nat} (w1 : (Jvm.Cond.methodLink own i y).before a0 Z = true) (w6 : (Jvm.Cond.instanceMethod y).before a0 Z = true) (wp : (Jvm.Cond.privateMethod y).before a0 Z = true) (wi : (Jvm.Cond.instantiable y.cls kk).before a0 Z = true) (w3 : (Jvm.Cond.initialized y.cls).before a0 Z = true) (w4 : (Jvm.Cond.code y by' mx' rt).before a0 Z = true) (hy : y.cls ≠ "java/lang/invoke/MethodHandle" ∧ y.cls ≠ "java/lang/invoke/VarHandle") (E : Exa Z h a B)
    (hM : MetFree l y (head1 [Jvm.Cond.code y by' mx' rt] rm) (fun a U => a = as' ∧ Z.Warmed39 U.vm ∧ U.heap = h) (fun _ _ _ _ _ => True) (fun _ U o U' => own_QR U n0 rm.cells rm.slots (own_RI h r) o U'))
    (h0c : rm.cells = 0) (h0s : rm.slots = 0) (hf : rm.frames + 1 ≤ R.frames) (hl : W + (mx' + 11) + rm.locals ≤ R.locals) (hc : kc + rm.cells ≤ R.cells) (hs : ks + rm.slots ≤ R.slots) {ps : List FieldType} (hpd : parseMethodDescriptor y.desc = some ⟨ps, rt⟩) (hlen : argsL.length = ps.length) (has : (Value.ref a :: argsL).toArray = as') (hst : st = argsL.reverse ++ .ref a :: rest) (hW : (rest.map fun v => v.category).sum ≤ W) (hsz : Ls.size = mx) (hd : decode bytes pc = .ok (.invokevirtual i, 3)) (hq : pc + 3 = q)
    (k : ∀ T', own_At p l e R s m args below meth c T' h n0 kc ks → own_Go p.tables e below (T'.setTop (mkF m q Ls (.int r :: rest))) Q) :
    own_Go p.tables e below (T.setTop (mkF m pc Ls st)) Q := by
  refine own_callP C A W argsL rest w1 w6 wp wi w3 w4 hy E hM hf hl hc hs hpd hlen has hst hW hsz hd hq (fun v T' h' hP A' => ?_)
  obtain ⟨rfl, rfl⟩ := hP
  rw [h0c, h0s] at A'
  exact k T' A'
theorem own_callC0 (C : own_Cx Z a0 p l e R s m args below meth c own nm bytes mx ret) (A : own_At p l e R s m args below meth c T h n0 kc ks) {i : Nat} {y : MethodName} {by' : ByteArray} {mx' : Nat} {rm : Room} (W : Nat) {as' : Array Value} (argsL rest : List Value)  {a : Addr} (hy1 : y.name = "<init>") (w1 : (Jvm.Cond.methodLink own i y).before a0 Z = true) (w2 : (Jvm.Cond.instanceMethod y).before a0 Z = true) (w3 : (Jvm.Cond.initialized y.cls).before a0 Z = true) (w4 : (Jvm.Cond.code y by' mx' none).before a0 Z = true) (hy : y.cls ≠ "java/lang/invoke/MethodHandle" ∧ y.cls ≠ "java/lang/invoke/VarHandle")
    (hM : MetFree l y (head1 [Jvm.Cond.code y by' mx' none] rm) (fun a U => a = as' ∧ Z.Warmed39 U.vm ∧ U.heap = h) (fun _ _ _ _ _ => True) (fun _ U o U' => own_QR U n0 rm.cells rm.slots (own_R0 h ()) o U'))
    (h0c : rm.cells = 0) (h0s : rm.slots = 0) (hf : rm.frames + 1 ≤ R.frames) (hl : W + (mx' + 11) + rm.locals ≤ R.locals) (hc : kc + rm.cells ≤ R.cells) (hs : ks + rm.slots ≤ R.slots) {ps : List FieldType} (hpd : parseMethodDescriptor y.desc = some ⟨ps, none⟩) (hlen : argsL.length = ps.length) (has : (Value.ref a :: argsL).toArray = as') (hst : st = argsL.reverse ++ .ref a :: rest) (hW : (rest.map fun v => v.category).sum ≤ W) (hsz : Ls.size = mx) (hd : decode bytes pc = .ok (.invokespecial i, 3)) (hq : pc + 3 = q)
    (k : ∀ T', own_At p l e R s m args below meth c T' h n0 kc ks → own_Go p.tables e below (T'.setTop (mkF m q Ls rest)) Q) :
    own_Go p.tables e below (T.setTop (mkF m pc Ls st)) Q := by
  refine own_callC C A W argsL rest hy1 w1 w2 w3 w4 hy hM hf hl hc hs hpd hlen has hst hW hsz hd hq (fun v T' h' hP A' => ?_)
  obtain ⟨rfl, rfl⟩ := hP
  rw [h0c, h0s] at A'
  exact k T' A'
theorem own_initO (C : own_Cx Z a0 p l e R s m args below meth c own nm bytes mx ret) (A : own_At p l e R s m args below meth c T h n0 kc ks) {i : Nat} {a : Addr} (W : Nat) (w1 : (Jvm.Cond.methodLink own i Lib.objectInit).before a0 Z = true) (w2 : (Jvm.Cond.instanceMethod Lib.objectInit).before a0 Z = true) (w3 : (Jvm.Cond.code Lib.objectInit ⟨#[0xb1]⟩ 1 none).before a0 Z = true) (hsz : Ls.size = mx) (hd : decode bytes pc = .ok (.invokespecial i, 3)) (hq : pc + 3 = q) (hf : 1 ≤ R.frames) (hW : (st.map fun v => v.category).sum ≤ W) (hl : W + 12 ≤ R.locals)
    (k : ∀ T', own_At p l e R s m args below meth c T' h n0 kc ks → own_Go p.tables e below (T'.setTop (mkF m q Ls st)) Q) :
    own_Go p.tables e below (T.setTop (mkF m pc Ls (.ref a :: st))) Q := by
  obtain ⟨locs, cells, slots, X, eT, N, hc', hs', hn⟩ := A
  obtain ⟨T', X', e', st'⟩ := initO X C.1 C.2.2.2.2.1 C.2.2.2.1 w1 w2 w3 eT (g := mkF m pc Ls (.ref a :: st)) rfl (by rw [C.2.2.1]; exact hsz) rfl (hb C.2.1 hd) hf (W := W) (by show 2 * 0 + _ ≤ _; omega) hl
  subst hq
  exact own_go st' (k T' ⟨locs, cells, slots, X', e', N, hc', hs', hn⟩)
theorem own_getF (C : own_Cx Z a0 p l e R s m args below meth c own nm bytes mx ret) (A : own_At p l e R s m args below meth c T h n0 kc ks) {O n d : String} {i : Nat} {a : Addr} {v : Value} (w : (Jvm.Cond.fieldLink own i O n d).before a0 Z = true) (F : Fld Z h a O n d v) (hd : decode bytes pc = .ok (.getfield i, 3)) (hq : pc + 3 = q) (k : ∀ T', own_At p l e R s m args below meth c T' h n0 kc ks → own_Go p.tables e below (T'.setTop (mkF m q Ls (v :: st))) Q) :
    own_Go p.tables e below (T.setTop (mkF m pc Ls (.ref a :: st))) Q := by
  obtain ⟨locs, cells, slots, X, eT, N, hc', hs', hn⟩ := A
  obtain ⟨T', X', e', st'⟩ := getF X C.1 C.2.2.2.2.1 C.2.2.2.1 (host := "") (Or.inl w) Via.refl eT F (g := mkF m pc Ls (.ref a :: st)) rfl rfl (hb C.2.1 hd)
  subst hq
  exact own_go st' (k T' ⟨locs, cells, slots, X', e', N, hc', hs', hn⟩)
theorem own_putF (C : own_Cx Z a0 p l e R s m args below meth c own nm bytes mx ret) (A : own_At p l e R s m args below meth c T h n0 kc ks) {O n d B : String} {i kk : Nat} {a : Addr} {v old : Value} (ty : FieldType) (w : (Jvm.Cond.fieldLink own i O n d).before a0 Z = true) (F : Fld Z h a O n d old) (E : Exa Z h a B) (Ly : (Jvm.Cond.lays B O n d).before a0 Z = true ∨ ((Jvm.Cond.laysFinal B O n d).before a0 Z = true ∧ own = O ∧ nm = "<init>")) (wi : (Jvm.Cond.instantiable B kk).before a0 Z = true) (hty : parseFieldDescriptor d = some ty) (hnr : narrow ty v = v) (hft : fits ty v = true) (ga : n0 ≤ a) (hd : decode bytes pc = .ok (.putfield i, 3)) (hq : pc + 3 = q)
    (k : ∀ T' h', Wr h h' a (Jvm.RoadKit.slotOf Z O n d) v → own_At p l e R s m args below meth c T' h' n0 kc ks → own_Go p.tables e below (T'.setTop (mkF m q Ls st)) Q) :
    own_Go p.tables e below (T.setTop (mkF m pc Ls (v :: .ref a :: st))) Q := by
  obtain ⟨locs, cells, slots, X, eT, N, hc', hs', hn⟩ := A
  obtain ⟨T', h', X', e', W', st'⟩ := putF X C.1 C.2.2.2.2.1 C.2.2.2.1 (host := "") (Or.inl w) Via.refl eT F E (Ly.imp id fun z => ⟨z.1, z.2.1, by rw [C.2.2.2.2.2.1]; exact z.2.2⟩) wi hty hnr hft (g := mkF m pc Ls (v :: .ref a :: st)) rfl rfl (hb C.2.1 hd)
  subst hq
  exact own_go st' (k T' h' W' ⟨_, cells, slots, X', e', Fr.snoc X' N ga, hc', hs', by rw [W'.size]; exact hn⟩)
theorem own_newO (C : own_Cx Z a0 p l e R s m args below meth c own nm bytes mx ret) (A : own_At p l e R s m args below meth c T h n0 kc ks) {B : String} {i n : Nat} (w : (Jvm.Cond.classLink own i B).before a0 Z = true) (wi : (Jvm.Cond.instantiable B n).before a0 Z = true) (wz : (Jvm.Cond.initialized B).before a0 Z = true) (hd : decode bytes pc = .ok (.new i, 3)) (hq : pc + 3 = q) (hc : kc + 1 ≤ R.cells) (hs : ks + n ≤ R.slots)
    (k : ∀ T' h' a, a = h.size → Ext h h' → Exa Z h' a B → (∀ {O nm d : String} {ty : FieldType}, Laid Z a0 B O nm d → parseFieldDescriptor d = some ty → Fld Z h' a O nm d (defaultValue ty)) → n0 ≤ a → own_At p l e R s m args below meth c T' h' n0 (kc + 1) (ks + n) → own_Go p.tables e below (T'.setTop (mkF m q Ls (.ref a :: st))) Q) :
    own_Go p.tables e below (T.setTop (mkF m pc Ls st)) Q := by
  obtain ⟨locs, cells, slots, X, eT, N, hc', hs', hn⟩ := A
  obtain ⟨T', h', X', e', E', A', D', -, st'⟩ := newO X C.1 C.2.2.2.2.1 C.2.2.2.1 w wi wz eT (g := mkF m pc Ls st) rfl (hb C.2.1 hd) (by omega) (by omega)
  subst hq
  exact own_go st' (k T' h' h.size rfl E' A' D' hn ⟨locs, _, _, X', e', N, by omega, by omega, Nat.le_trans hn E'.1⟩)
theorem own_instY (C : own_Cx Z a0 p l e R s m args below meth c own nm bytes mx ret) (A : own_At p l e R s m args below meth c T h n0 kc ks) {B : String} {i : Nat} {a : Addr} (w : (Jvm.Cond.classLink own i B).before a0 Z = true) (F : Ins Z h a B true) (hd : decode bytes pc = .ok (.instanceof i, 3)) (hq : pc + 3 = q) (k : ∀ T', own_At p l e R s m args below meth c T' h n0 kc ks → own_Go p.tables e below (T'.setTop (mkF m q Ls (.int 1 :: st))) Q) :
    own_Go p.tables e below (T.setTop (mkF m pc Ls (.ref a :: st))) Q := by
  obtain ⟨locs, cells, slots, X, eT, N, hc', hs', hn⟩ := A
  obtain ⟨T', X', e', st'⟩ := instY X C.1 C.2.2.2.2.1 C.2.2.2.1 w eT F (g := mkF m pc Ls (.ref a :: st)) rfl rfl (hb C.2.1 hd)
  subst hq
  exact own_go st' (k T' ⟨locs, cells, slots, X', e', N, hc', hs', hn⟩)
theorem own_castY (C : own_Cx Z a0 p l e R s m args below meth c own nm bytes mx ret) (A : own_At p l e R s m args below meth c T h n0 kc ks) {B : String} {i : Nat} {a : Addr} (w : (Jvm.Cond.classLink own i B).before a0 Z = true) (F : Ins Z h a B true) (hd : decode bytes pc = .ok (.checkcast i, 3)) (hq : pc + 3 = q) (k : ∀ T', own_At p l e R s m args below meth c T' h n0 kc ks → own_Go p.tables e below (T'.setTop (mkF m q Ls (.ref a :: st))) Q) :
    own_Go p.tables e below (T.setTop (mkF m pc Ls (.ref a :: st))) Q := by
  obtain ⟨locs, cells, slots, X, eT, N, hc', hs', hn⟩ := A
  obtain ⟨T', X', e', st'⟩ := castY X C.1 C.2.2.2.2.1 C.2.2.2.1 w eT F (g := mkF m pc Ls (.ref a :: st)) rfl rfl (hb C.2.1 hd)
  subst hq
  exact own_go st' (k T' ⟨locs, cells, slots, X', e', N, hc', hs', hn⟩)
theorem own_instNo (C : own_Cx Z a0 p l e R s m args below meth c own nm bytes mx ret) (A : own_At p l e R s m args below meth c T h n0 kc ks) {B D : String} {i : Nat} {a : Addr} (w : (Jvm.Cond.classLink own i B).before a0 Z = true) (E : Exa Z h a D) (F : ∃ c t, Z.vm.findClass D = some c ∧ Z.vm.findClass B = some t ∧ Z.vm.assignable c t = false) (hd : decode bytes pc = .ok (.instanceof i, 3)) (hq : pc + 3 = q) (k : ∀ T', own_At p l e R s m args below meth c T' h n0 kc ks → own_Go p.tables e below (T'.setTop (mkF m q Ls (.int 0 :: st))) Q) :
    own_Go p.tables e below (T.setTop (mkF m pc Ls (.ref a :: st))) Q := by
  obtain ⟨locs, cells, slots, X, eT, N, hc', hs', hn⟩ := A
  obtain ⟨T', X', e', st'⟩ := instNo X C.1 C.2.2.2.2.1 C.2.2.2.1 w eT E F (g := mkF m pc Ls (.ref a :: st)) rfl rfl (hb C.2.1 hd)
  subst hq
  exact own_go st' (k T' ⟨locs, cells, slots, X', e', N, hc', hs', hn⟩)
theorem own_instNull (C : own_Cx Z a0 p l e R s m args below meth c own nm bytes mx ret) (A : own_At p l e R s m args below meth c T h n0 kc ks) {i : Nat} (hd : decode bytes pc = .ok (.instanceof i, 3)) (hq : pc + 3 = q) (k : own_Go p.tables e below (T.setTop (mkF m q Ls (.int 0 :: st))) Q) :
    own_Go p.tables e below (T.setTop (mkF m pc Ls (.null :: st))) Q := by
  obtain ⟨_, _, _, X, _⟩ := A
  subst hq
  exact own_go (X.instanceofNull C.1 (g := mkF m pc Ls (.null :: st)) rfl rfl (hb C.2.1 hd)) k
def own_Ia (Z : State) (h : Heap) (a : Addr) (ty : FieldType) (n : Int32) (xs : List Int32) : Prop := ∃ k, Arv Z h a k ty n (xs.map .int) (.int 0) ∧ xs.length = n.toNatClampNeg
theorem own_Ia.lt {a : Addr} {ty : FieldType} {n : Int32} {xs : List Int32} (F : own_Ia Z h a ty n xs) : a < h.size := by obtain ⟨k, V, -⟩ := F; exact V.lt
theorem own_Ia.ext {h' : Heap} {a : Addr} {ty : FieldType} {n : Int32} {xs : List Int32} (F : own_Ia Z h a ty n xs) (E : Ext h h') : own_Ia Z h' a ty n xs := by obtain ⟨k, V, hl⟩ := F; exact ⟨k, V.ext E, hl⟩
theorem own_Ia.keep {h' : Heap} {ws : List Addr} {a : Addr} {ty : FieldType} {n : Int32} {xs : List Int32} (F : own_Ia Z h a ty n xs) (K : Keep h h' ws) (q : a ∉ ws) : own_Ia Z h' a ty n xs := by obtain ⟨k, V, hl⟩ := F; exact ⟨k, V.keep K q, hl⟩
theorem own_Ia.other {h' : Heap} {a b : Addr} {sl : Nat} {v : Value} {ty : FieldType} {n : Int32} {xs : List Int32} (F : own_Ia Z h b ty n xs) (W : Wr h h' a sl v) (q : b ≠ a) : own_Ia Z h' b ty n xs := by obtain ⟨k, V, hl⟩ := F; exact ⟨k, V.other W q, hl⟩
theorem own_getD_map (xs : List Int32) (i : Nat) : (xs.map Value.int).getD i (.int 0) = .int (xs.getD i 0) := by
  induction xs generalizing i with
  | nil => rfl
  | cons x t ih => cases i with
    | zero => rfl
    | succ i => simpa using ih i
theorem own_newP (C : own_Cx Z a0 p l e R s m args below meth c own nm bytes mx ret) (A : own_At p l e R s m args below meth c T h n0 kc ks) {aty : ArrayType} {n : Int32} (cap : Nat) {xs : List Int32} (w : (Jvm.Cond.arrayClass (newarray.typeOf aty)).before a0 Z = true) (hn' : ¬ n < 0) (hxs : List.replicate n.toNatClampNeg 0 = xs) (hcap : n.toNatClampNeg ≤ cap) (hcb : cap * 8 ≤ 536870912) (hdv : defaultValue (newarray.typeOf aty) = .int 0) (hd : decode bytes pc = .ok (.newarray aty, 2)) (hq : pc + 2 = q) (hc : kc + 1 ≤ R.cells) (hs : ks + cap ≤ R.slots)
    (k : ∀ T' h' a, a = h.size → Ext h h' → own_Ia Z h' a (newarray.typeOf aty) n xs → n0 ≤ a → own_At p l e R s m args below meth c T' h' n0 (kc + 1) (ks + cap) → own_Go p.tables e below (T'.setTop (mkF m q Ls (.ref a :: st))) Q) :
    own_Go p.tables e below (T.setTop (mkF m pc Ls (.int n :: st))) Q := by
  obtain ⟨locs, cells, slots, X, eT, N, hc', hs', hn⟩ := A
  obtain ⟨T', h', cA, X', e', E', A', st'⟩ := newP X C.1 C.2.2.2.2.1 w eT (g := mkF m pc Ls (.int n :: st)) rfl (hb C.2.1 hd) rfl hn' (cap := cap) hcap hcb (by omega) (by omega)
  subst hq hxs
  have V := Arv.new A' hn'
  rw [hdv] at V
  have V' := V.pad (pad_rep [] (.int 0) n.toNatClampNeg)
  refine own_go st' (k T' h' h.size rfl E' ⟨cA, ?_, by simp⟩ hn ⟨locs, _, _, X', e', N, by omega, by omega, Nat.le_trans hn E'.1⟩)
  simpa using V'
theorem own_newX (C : own_Cx Z a0 p l e R s m args below meth c own nm bytes mx ret) (A : own_At p l e R s m args below meth c T h n0 kc ks) {aty : ArrayType} {n : Int32} (cap : Nat) (w : (Jvm.Cond.arrayClass (newarray.typeOf aty)).before a0 Z = true) (hn' : ¬ n < 0) (hcap : n.toNatClampNeg ≤ cap) (hcb : cap * 8 ≤ 536870912) (hd : decode bytes pc = .ok (.newarray aty, 2)) (hq : pc + 2 = q) (hc : kc + 1 ≤ R.cells) (hs : ks + cap ≤ R.slots)
    (k : ∀ T' h' a, a = h.size → Ext h h' → n0 ≤ a → own_At p l e R s m args below meth c T' h' n0 (kc + 1) (ks + cap) → own_Go p.tables e below (T'.setTop (mkF m q Ls (.ref a :: st))) Q) :
    own_Go p.tables e below (T.setTop (mkF m pc Ls (.int n :: st))) Q := by
  obtain ⟨locs, cells, slots, X, eT, N, hc', hs', hn⟩ := A
  obtain ⟨T', h', cA, X', e', E', A', st'⟩ := newP X C.1 C.2.2.2.2.1 w eT (g := mkF m pc Ls (.int n :: st)) rfl (hb C.2.1 hd) rfl hn' (cap := cap) hcap hcb (by omega) (by omega)
  subst hq
  exact own_go st' (k T' h' h.size rfl E' hn ⟨locs, _, _, X', e', N, by omega, by omega, Nat.le_trans hn E'.1⟩)
def own_PN (Z : State) (n0 : Nat) (ty : FieldType) (h : Heap) (r : Int32 × List Int32) (v : Option Value) (h' : Heap) : Prop := ∃ a, v = some (.ref a) ∧ n0 ≤ a ∧ h.size ≤ a ∧ Keep h h' [] ∧ own_Ia Z h' a ty r.1 r.2
theorem own_iastore (C : own_Cx Z a0 p l e R s m args below meth c own nm bytes mx ret) (A : own_At p l e R s m args below meth c T h n0 kc ks) {a : Addr} {j x n : Int32} {xs ys : List Int32} (V : own_Ia Z h a .int n xs) (hj : ¬ j < 0 ∧ j < n) (hys : xs.set j.toNatClampNeg (x) = ys) (ga : n0 ≤ a) (hd : decode bytes pc = .ok (.iastore, 1)) (hq : pc + 1 = q)
    (k : ∀ T' h', Keep h h' [a] → own_Ia Z h' a .int n ys → own_At p l e R s m args below meth c T' h' n0 kc ks → own_Go p.tables e below (T'.setTop (mkF m q Ls st)) Q) :
    own_Go p.tables e below (T.setTop (mkF m pc Ls (.int x :: .int j :: .ref a :: st))) Q := by
  obtain ⟨locs, cells, slots, X, eT, N, hc', hs', hn⟩ := A
  obtain ⟨kk, ⟨cl, Ar, q1, S, q3, H, G⟩, hlen⟩ := V
  have hin := inb_of S hj
  obtain ⟨T', h', X', e', W', st'⟩ := stI X C.1 C.2.2.2.2.1 eT Ar hin (g := mkF m pc Ls (.int x :: .int j :: .ref a :: st)) rfl rfl (hb C.2.1 hd)
  subst hq hys
  have hlt : j.toNatClampNeg < (xs.map Value.int).length := by
    have := Nat.lt_of_not_le fun z => hin (Or.inr z)
    rw [S] at this; simpa [hlen] using this
  have V' := Arv.set Ar q1 S q3 H G rfl W' j.toNatClampNeg rfl hlt
  refine own_go st' (k T' h' (Keep.of_wr W') ⟨kk, ?_, by simpa using hlen⟩ ⟨_, cells, slots, X', e', Fr.snoc X' N ga, hc', hs', by rw [W'.size]; exact hn⟩)
  rw [List.map_set]
  exact V'
theorem own_bastore (C : own_Cx Z a0 p l e R s m args below meth c own nm bytes mx ret) (A : own_At p l e R s m args below meth c T h n0 kc ks) {a : Addr} {j x n : Int32} {xs ys : List Int32} (V : own_Ia Z h a .byte n xs) (hj : ¬ j < 0 ∧ j < n) (hys : xs.set j.toNatClampNeg (x.toInt8.toInt32) = ys) (ga : n0 ≤ a) (hd : decode bytes pc = .ok (.bastore, 1)) (hq : pc + 1 = q)
    (k : ∀ T' h', Keep h h' [a] → own_Ia Z h' a .byte n ys → own_At p l e R s m args below meth c T' h' n0 kc ks → own_Go p.tables e below (T'.setTop (mkF m q Ls st)) Q) :
    own_Go p.tables e below (T.setTop (mkF m pc Ls (.int x :: .int j :: .ref a :: st))) Q := by
  obtain ⟨locs, cells, slots, X, eT, N, hc', hs', hn⟩ := A
  obtain ⟨kk, ⟨cl, Ar, q1, S, q3, H, G⟩, hlen⟩ := V
  have hin := inb_of S hj
  obtain ⟨T', h', X', e', W', st'⟩ := stB X C.1 C.2.2.2.2.1 eT Ar hin (g := mkF m pc Ls (.int x :: .int j :: .ref a :: st)) rfl rfl (hb C.2.1 hd)
  subst hq hys
  have hlt : j.toNatClampNeg < (xs.map Value.int).length := by
    have := Nat.lt_of_not_le fun z => hin (Or.inr z)
    rw [S] at this; simpa [hlen] using this
  have V' := Arv.set Ar q1 S q3 H G (fits_nar_byte x) W' j.toNatClampNeg rfl hlt
  refine own_go st' (k T' h' (Keep.of_wr W') ⟨kk, ?_, by simpa using hlen⟩ ⟨_, cells, slots, X', e', Fr.snoc X' N ga, hc', hs', by rw [W'.size]; exact hn⟩)
  rw [List.map_set]
  exact V'
theorem own_castore (C : own_Cx Z a0 p l e R s m args below meth c own nm bytes mx ret) (A : own_At p l e R s m args below meth c T h n0 kc ks) {a : Addr} {j x n : Int32} {xs ys : List Int32} (V : own_Ia Z h a .char n xs) (hj : ¬ j < 0 ∧ j < n) (hys : xs.set j.toNatClampNeg (x.toUInt32.toUInt16.toUInt32.toInt32) = ys) (ga : n0 ≤ a) (hd : decode bytes pc = .ok (.castore, 1)) (hq : pc + 1 = q)
    (k : ∀ T' h', Keep h h' [a] → own_Ia Z h' a .char n ys → own_At p l e R s m args below meth c T' h' n0 kc ks → own_Go p.tables e below (T'.setTop (mkF m q Ls st)) Q) :
    own_Go p.tables e below (T.setTop (mkF m pc Ls (.int x :: .int j :: .ref a :: st))) Q := by
  obtain ⟨locs, cells, slots, X, eT, N, hc', hs', hn⟩ := A
  obtain ⟨kk, ⟨cl, Ar, q1, S, q3, H, G⟩, hlen⟩ := V
  have hin := inb_of S hj
  obtain ⟨T', h', X', e', W', st'⟩ := stC X C.1 C.2.2.2.2.1 eT Ar hin (g := mkF m pc Ls (.int x :: .int j :: .ref a :: st)) rfl rfl (hb C.2.1 hd)
  subst hq hys
  have hlt : j.toNatClampNeg < (xs.map Value.int).length := by
    have := Nat.lt_of_not_le fun z => hin (Or.inr z)
    rw [S] at this; simpa [hlen] using this
  have V' := Arv.set Ar q1 S q3 H G (fits_nar_char x) W' j.toNatClampNeg rfl hlt
  refine own_go st' (k T' h' (Keep.of_wr W') ⟨kk, ?_, by simpa using hlen⟩ ⟨_, cells, slots, X', e', Fr.snoc X' N ga, hc', hs', by rw [W'.size]; exact hn⟩)
  rw [List.map_set]
  exact V'
theorem own_iaload (C : own_Cx Z a0 p l e R s m args below meth c own nm bytes mx ret) (A : own_At p l e R s m args below meth c T h n0 kc ks) {a : Addr} {j n v : Int32} {xs : List Int32} (V : own_Ia Z h a .int n xs) (hj : ¬ j < 0 ∧ j < n) (hv : xs.getD j.toNatClampNeg 0 = v) (hd : decode bytes pc = .ok (.iaload, 1)) (hq : pc + 1 = q) (k : own_Go p.tables e below (T.setTop (mkF m q Ls (.int v :: st))) Q) :
    own_Go p.tables e below (T.setTop (mkF m pc Ls (.int j :: .ref a :: st))) Q := by
  obtain ⟨locs, cells, slots, X, eT, N, hc', hs', hn⟩ := A
  obtain ⟨kk, ⟨cl, Ar, q1, S, q3, H, G⟩, hlen⟩ := V
  have hin := inb_of S hj
  subst hq hv
  exact own_go (fun t => X.iaload C.1 (by rw [eT]; exact Ar.1) (State.isArrayOf_alike C.2.2.2.2.1.alike Ar.2.1) Ar.2.2 hin (H.at hin (own_getD_map xs _)) (g := mkF m pc Ls (.int j :: .ref a :: st)) rfl rfl (hb C.2.1 hd) t) k
theorem own_baload (C : own_Cx Z a0 p l e R s m args below meth c own nm bytes mx ret) (A : own_At p l e R s m args below meth c T h n0 kc ks) {a : Addr} {j n v : Int32} {xs : List Int32} (V : own_Ia Z h a .byte n xs) (hj : ¬ j < 0 ∧ j < n) (hv : xs.getD j.toNatClampNeg 0 = v) (hd : decode bytes pc = .ok (.baload, 1)) (hq : pc + 1 = q) (k : own_Go p.tables e below (T.setTop (mkF m q Ls (.int v :: st))) Q) :
    own_Go p.tables e below (T.setTop (mkF m pc Ls (.int j :: .ref a :: st))) Q := by
  obtain ⟨locs, cells, slots, X, eT, N, hc', hs', hn⟩ := A
  obtain ⟨kk, ⟨cl, Ar, q1, S, q3, H, G⟩, hlen⟩ := V
  have hin := inb_of S hj
  subst hq hv
  exact own_go (fun t => X.baloadBytes C.1 (by rw [eT]; exact Ar.1) (State.isArrayOf_alike C.2.2.2.2.1.alike Ar.2.1) Ar.2.2 hin (H.at hin (own_getD_map xs _)) (g := mkF m pc Ls (.int j :: .ref a :: st)) rfl rfl (hb C.2.1 hd) t) k
theorem own_caload (C : own_Cx Z a0 p l e R s m args below meth c own nm bytes mx ret) (A : own_At p l e R s m args below meth c T h n0 kc ks) {a : Addr} {j n v : Int32} {xs : List Int32} (V : own_Ia Z h a .char n xs) (hj : ¬ j < 0 ∧ j < n) (hv : xs.getD j.toNatClampNeg 0 = v) (hd : decode bytes pc = .ok (.caload, 1)) (hq : pc + 1 = q) (k : own_Go p.tables e below (T.setTop (mkF m q Ls (.int v :: st))) Q) :
    own_Go p.tables e below (T.setTop (mkF m pc Ls (.int j :: .ref a :: st))) Q := by
  obtain ⟨locs, cells, slots, X, eT, N, hc', hs', hn⟩ := A
  obtain ⟨kk, ⟨cl, Ar, q1, S, q3, H, G⟩, hlen⟩ := V
  have hin := inb_of S hj
  subst hq hv
  exact own_go (fun t => X.caload C.1 (by rw [eT]; exact Ar.1) (State.isArrayOf_alike C.2.2.2.2.1.alike Ar.2.1) Ar.2.2 hin (H.at hin (own_getD_map xs _)) (g := mkF m pc Ls (.int j :: .ref a :: st)) rfl rfl (hb C.2.1 hd) t) k
theorem own_alen (C : own_Cx Z a0 p l e R s m args below meth c own nm bytes mx ret) (A : own_At p l e R s m args below meth c T h n0 kc ks) {a : Addr} {n : Int32} {ty : FieldType} {xs : List Int32} (V : own_Ia Z h a ty n xs) (hd : decode bytes pc = .ok (.arraylength, 1)) (hq : pc + 1 = q) (k : own_Go p.tables e below (T.setTop (mkF m q Ls (.int n :: st))) Q) :
    own_Go p.tables e below (T.setTop (mkF m pc Ls (.ref a :: st))) Q := by
  obtain ⟨locs, cells, slots, X, eT, N, hc', hs', hn⟩ := A
  obtain ⟨kk, ⟨cl, Ar, q1, S, q3, H, G⟩, hlen⟩ := V
  subst hq
  rw [← len_of S q3] at k
  exact own_go (fun t => X.arraylength C.1 (by rw [eT]; exact Ar.1) (State.isArrayOf_alike C.2.2.2.2.1.alike Ar.2.1) (g := mkF m pc Ls (.ref a :: st)) rfl rfl (hb C.2.1 hd) t) k
end OwnKit
theorem own_pd0 : parseMethodDescriptor "(JJ)J" = some ⟨[.long, .long], some .long⟩ := by decide +kernel
theorem own_pd1 : parseMethodDescriptor "(JZJJ)J" = some ⟨[.long, .boolean, .long, .long], some .long⟩ := by decide +kernel
theorem own_pd2 : parseMethodDescriptor "()V" = some ⟨[], none⟩ := by decide +kernel
theorem own_pd3 : parseMethodDescriptor "(J)V" = some ⟨[.long], none⟩ := by decide +kernel
theorem own_pd4 : parseMethodDescriptor "()J" = some ⟨[], some .long⟩ := by decide +kernel
/-! Math.min -/
theorem own_d1_0 : decode jdk_29_method_70_code 0 = .ok (.lload_n 0, 1) := by decide +kernel
theorem own_d1_1 : decode jdk_29_method_70_code 1 = .ok (.lload_n 2, 1) := by decide +kernel
theorem own_d1_2 : decode jdk_29_method_70_code 2 = .ok (.lcmp, 1) := by decide +kernel
theorem own_d1_3 : decode jdk_29_method_70_code 3 = .ok (.ifCond .gt 7, 3) := by decide +kernel
theorem own_d1_6 : decode jdk_29_method_70_code 6 = .ok (.lload_n 0, 1) := by decide +kernel
theorem own_d1_7 : decode jdk_29_method_70_code 7 = .ok (.goto 4, 3) := by decide +kernel
theorem own_d1_10 : decode jdk_29_method_70_code 10 = .ok (.lload_n 2, 1) := by decide +kernel
theorem own_d1_11 : decode jdk_29_method_70_code 11 = .ok (.lreturn, 1) := by decide +kernel
def own_R1 : Room := { frames := 0, cells := 0, slots := 0, locals := 0 }
def f1_0 (v0 : Int64) (v2 : Int64) : Int64 := (if v2 < v0 then v2 else v0)
set_option maxRecDepth 65536 in
set_option maxHeartbeats 4000000 in
theorem w1_0 {Z : State} {a0 : Array Value} {p : Program} {l : Launch} {e : Env} {s : State} {m : MethodId} {args : Array Value} {below : List Frame} {meth : Method} {c : Code} {T : State} {h : Heap} {n0 : Nat}  (C : own_Cx Z a0 p l e own_R1 s m args below meth c "java/lang/Math" "min" jdk_29_method_70_code 4 (some .long)) (A : own_At p l e own_R1 s m args below meth c T h n0 0 0) (v0 : Int64) (v2 : Int64) :
    own_Go p.tables e below (T.setTop (mkF m 0 #[.val (.long v0), .second, .val (.long v2), .second] [])) (own_QR s n0 0 0 (own_RJ h (f1_0 v0 v2))) := by
  unfold f1_0
  refine own_lloadN C A own_d1_0 rfl rfl ?_
  refine own_lloadN C A own_d1_1 rfl rfl ?_
  refine own_lcmp C A own_d1_2 rfl ?_
  refine own_ite (fun hc3 => ?_) (fun hc3 => ?_)
  · refine own_ifY C A own_d1_3 (Jvm.Free.XT.ll_gt_t hc3) (by decide) (q := 10) (by decide) ?_
    refine own_lloadN C A own_d1_10 rfl rfl ?_
    exact own_retJ C A own_d1_11 ⟨rfl, rfl⟩
  · refine own_ifN C A own_d1_3 (Jvm.Free.XT.ll_gt_f hc3) rfl ?_
    refine own_lloadN C A own_d1_6 rfl rfl ?_
    refine own_goto C A own_d1_7 (by decide) (q := 11) (by decide) ?_
    exact own_retJ C A own_d1_11 ⟨rfl, rfl⟩
theorem own_ef1 (m : MethodId) (v0 : Int64) (v2 : Int64) : entryFrame m #[(.long v0), (.long v2)] 4 = mkF m 0 #[.val (.long v0), .second, .val (.long v2), .second] [] := by first | (simp [entryFrame, mkF, argsToLocals, Value.category]; done) | rfl
theorem rm1 (l : Launch) (Z : State) (a0 : Array Value) (hw : ∀ d ∈ tables_1, d.before a0 Z = true) (ws : List Jvm.Cond) (v0 : Int64) (v2 : Int64) (h : Heap) (n0 : Nat) (hn : n0 ≤ h.size) :
    MetFree l (⟨"java/lang/Math", "min", "(JJ)J"⟩ : MethodName) (head1 (Jvm.Cond.code (⟨"java/lang/Math", "min", "(JJ)J"⟩ : MethodName) jdk_29_method_70_code 4 (some .long) :: ws) own_R1) (fun a U => a = #[(.long v0), (.long v2)] ∧ Z.Warmed39 U.vm ∧ U.heap = h) (fun _ _ _ _ _ => True) (fun _ U o U' => own_QR U n0 0 0 (own_RJ h (f1_0 v0 v2)) o U') :=
  own_met (Jvm.Free.JP.mathPlain rfl (by decide +kernel)) hw hn (fun m => own_ef1 m v0 v2) (fun p e s m below meth c T C A => w1_0 C A v0 v2)
/-! Math.max -/
theorem own_d2_0 : decode jdk_29_method_66_code 0 = .ok (.lload_n 0, 1) := by decide +kernel
theorem own_d2_1 : decode jdk_29_method_66_code 1 = .ok (.lload_n 2, 1) := by decide +kernel
theorem own_d2_2 : decode jdk_29_method_66_code 2 = .ok (.lcmp, 1) := by decide +kernel
theorem own_d2_3 : decode jdk_29_method_66_code 3 = .ok (.ifCond .lt 7, 3) := by decide +kernel
theorem own_d2_6 : decode jdk_29_method_66_code 6 = .ok (.lload_n 0, 1) := by decide +kernel
theorem own_d2_7 : decode jdk_29_method_66_code 7 = .ok (.goto 4, 3) := by decide +kernel
theorem own_d2_10 : decode jdk_29_method_66_code 10 = .ok (.lload_n 2, 1) := by decide +kernel
theorem own_d2_11 : decode jdk_29_method_66_code 11 = .ok (.lreturn, 1) := by decide +kernel
def own_R2 : Room := { frames := 0, cells := 0, slots := 0, locals := 0 }
def f2_0 (v0 : Int64) (v2 : Int64) : Int64 := (if v0 < v2 then v2 else v0)
set_option maxRecDepth 65536 in
set_option maxHeartbeats 4000000 in
theorem w2_0 {Z : State} {a0 : Array Value} {p : Program} {l : Launch} {e : Env} {s : State} {m : MethodId} {args : Array Value} {below : List Frame} {meth : Method} {c : Code} {T : State} {h : Heap} {n0 : Nat}  (C : own_Cx Z a0 p l e own_R2 s m args below meth c "java/lang/Math" "max" jdk_29_method_66_code 4 (some .long)) (A : own_At p l e own_R2 s m args below meth c T h n0 0 0) (v0 : Int64) (v2 : Int64) :
    own_Go p.tables e below (T.setTop (mkF m 0 #[.val (.long v0), .second, .val (.long v2), .second] [])) (own_QR s n0 0 0 (own_RJ h (f2_0 v0 v2))) := by
  unfold f2_0
  refine own_lloadN C A own_d2_0 rfl rfl ?_
  refine own_lloadN C A own_d2_1 rfl rfl ?_
  refine own_lcmp C A own_d2_2 rfl ?_
  refine own_ite (fun hc3 => ?_) (fun hc3 => ?_)
  · refine own_ifY C A own_d2_3 (Jvm.Free.XT.ll_lt_t hc3) (by decide) (q := 10) (by decide) ?_
    refine own_lloadN C A own_d2_10 rfl rfl ?_
    exact own_retJ C A own_d2_11 ⟨rfl, rfl⟩
  · refine own_ifN C A own_d2_3 (Jvm.Free.XT.ll_lt_f hc3) rfl ?_
    refine own_lloadN C A own_d2_6 rfl rfl ?_
    refine own_goto C A own_d2_7 (by decide) (q := 11) (by decide) ?_
    exact own_retJ C A own_d2_11 ⟨rfl, rfl⟩
theorem own_ef2 (m : MethodId) (v0 : Int64) (v2 : Int64) : entryFrame m #[(.long v0), (.long v2)] 4 = mkF m 0 #[.val (.long v0), .second, .val (.long v2), .second] [] := by first | (simp [entryFrame, mkF, argsToLocals, Value.category]; done) | rfl
theorem rm2 (l : Launch) (Z : State) (a0 : Array Value) (hw : ∀ d ∈ tables_1, d.before a0 Z = true) (ws : List Jvm.Cond) (v0 : Int64) (v2 : Int64) (h : Heap) (n0 : Nat) (hn : n0 ≤ h.size) :
    MetFree l (⟨"java/lang/Math", "max", "(JJ)J"⟩ : MethodName) (head1 (Jvm.Cond.code (⟨"java/lang/Math", "max", "(JJ)J"⟩ : MethodName) jdk_29_method_66_code 4 (some .long) :: ws) own_R2) (fun a U => a = #[(.long v0), (.long v2)] ∧ Z.Warmed39 U.vm ∧ U.heap = h) (fun _ _ _ _ _ => True) (fun _ U o U' => own_QR U n0 0 0 (own_RJ h (f2_0 v0 v2)) o U') :=
  own_met (Jvm.Free.JP.mathPlain rfl (by decide +kernel)) hw hn (fun m => own_ef2 m v0 v2) (fun p e s m below meth c T C A => w2_0 C A v0 v2)
/-! WindowAddPinLaw.below -/
theorem own_d3_0 : decode method_2_code 0 = .ok (.iload_n 2, 1) := by decide +kernel
theorem own_d3_1 : decode method_2_code 1 = .ok (.ifCond .eq 16, 3) := by decide +kernel
theorem own_d3_4 : decode method_2_code 4 = .ok (.lload_n 3, 1) := by decide +kernel
theorem own_d3_5 : decode method_2_code 5 = .ok (.lload 5, 2) := by decide +kernel
theorem own_d3_7 : decode method_2_code 7 = .ok (.lcmp, 1) := by decide +kernel
theorem own_d3_8 : decode method_2_code 8 = .ok (.ifCond .ge 9, 3) := by decide +kernel
theorem own_d3_11 : decode method_2_code 11 = .ok (.lload_n 0, 1) := by decide +kernel
theorem own_d3_12 : decode method_2_code 12 = .ok (.lload_n 3, 1) := by decide +kernel
theorem own_d3_13 : decode method_2_code 13 = .ok (.invokestatic 7, 3) := by decide +kernel
theorem own_d3_16 : decode method_2_code 16 = .ok (.lreturn, 1) := by decide +kernel
theorem own_d3_17 : decode method_2_code 17 = .ok (.lload_n 0, 1) := by decide +kernel
theorem own_d3_18 : decode method_2_code 18 = .ok (.lreturn, 1) := by decide +kernel
def own_R3 : Room := { frames := 1, cells := 0, slots := 0, locals := 15 }
def f3_0 (v0 : Int64) (v2 : Int32) (v3 : Int64) (v5 : Int64) : Int64 := (if v2 = (0 : Int32) then v0 else (if v3 < v5 then (f2_0 v0 v3) else v0))
set_option maxRecDepth 65536 in
set_option maxHeartbeats 4000000 in
theorem w3_0 {Z : State} {a0 : Array Value} {p : Program} {l : Launch} {e : Env} {s : State} {m : MethodId} {args : Array Value} {below : List Frame} {meth : Method} {c : Code} {T : State} {h : Heap} {n0 : Nat}  (C : own_Cx Z a0 p l e own_R3 s m args below meth c "com/example/fit50/fit50/io/WindowAddPinLaw" "below" method_2_code 7 (some .long)) (A : own_At p l e own_R3 s m args below meth c T h n0 0 0) (v0 : Int64) (v2 : Int32) (v3 : Int64) (v5 : Int64) :
    own_Go p.tables e below (T.setTop (mkF m 0 #[.val (.long v0), .second, .val (.int v2), .val (.long v3), .second, .val (.long v5), .second] [])) (own_QR s n0 0 0 (own_RJ h (f3_0 v0 v2 v3 v5))) := by
  unfold f3_0
  refine own_iloadN C A own_d3_0 rfl rfl ?_
  refine own_ite (fun hc1 => ?_) (fun hc1 => ?_)
  · refine own_ifY C A own_d3_1 (Jvm.Free.XT.i0_eq_t hc1) (by decide) (q := 17) (by decide) ?_
    refine own_lloadN C A own_d3_17 rfl rfl ?_
    exact own_retJ C A own_d3_18 ⟨rfl, rfl⟩
  · refine own_ifN C A own_d3_1 (Jvm.Free.XT.i0_eq_f hc1) rfl ?_
    refine own_lloadN C A own_d3_4 rfl rfl ?_
    refine own_lload C A own_d3_5 rfl rfl ?_
    refine own_lcmp C A own_d3_7 rfl ?_
    refine own_ite (fun hc8 => ?_) (fun hc8 => ?_)
    · refine own_ifN C A own_d3_8 (Jvm.Free.XT.ll_ge_f hc8) rfl ?_
      refine own_lloadN C A own_d3_11 rfl rfl ?_
      refine own_lloadN C A own_d3_12 rfl rfl ?_
      refine own_callSJ C A 0 [(.long v0), (.long v3)] [] (own_w C 3 rfl) (own_w C 4 rfl) (own_w C 5 rfl) (own_w C 6 rfl) (by decide) (rm2 l Z a0 C.2.2.2.2.2.2.2.2 [] v0 v3 _ _ (own_size A)) rfl rfl (by decide) (by decide) (by decide) (by decide) own_pd0 rfl rfl rfl (Nat.le_of_eq rfl) rfl own_d3_13 rfl (fun T A => ?_)
      exact own_retJ C A own_d3_16 ⟨rfl, rfl⟩
    · refine own_ifY C A own_d3_8 (Jvm.Free.XT.ll_ge_t hc8) (by decide) (q := 17) (by decide) ?_
      refine own_lloadN C A own_d3_17 rfl rfl ?_
      exact own_retJ C A own_d3_18 ⟨rfl, rfl⟩
theorem own_ef3 (m : MethodId) (v0 : Int64) (v2 : Int32) (v3 : Int64) (v5 : Int64) : entryFrame m #[(.long v0), (.int v2), (.long v3), (.long v5)] 7 = mkF m 0 #[.val (.long v0), .second, .val (.int v2), .val (.long v3), .second, .val (.long v5), .second] [] := by first | (simp [entryFrame, mkF, argsToLocals, Value.category]; done) | rfl
theorem rm3 (l : Launch) (Z : State) (a0 : Array Value) (hw : ∀ d ∈ tables_1, d.before a0 Z = true) (ws : List Jvm.Cond) (v0 : Int64) (v2 : Int32) (v3 : Int64) (v5 : Int64) (h : Heap) (n0 : Nat) (hn : n0 ≤ h.size) :
    MetFree l (⟨"com/example/fit50/fit50/io/WindowAddPinLaw", "below", "(JZJJ)J"⟩ : MethodName) (head1 (Jvm.Cond.code (⟨"com/example/fit50/fit50/io/WindowAddPinLaw", "below", "(JZJJ)J"⟩ : MethodName) method_2_code 7 (some .long) :: ws) own_R3) (fun a U => a = #[(.long v0), (.int v2), (.long v3), (.long v5)] ∧ Z.Warmed39 U.vm ∧ U.heap = h) (fun _ _ _ _ _ => True) (fun _ U o U' => own_QR U n0 0 0 (own_RJ h (f3_0 v0 v2 v3 v5)) o U') :=
  own_met (plainFor_of_name (by first | (simp [plainName, overriddenIn]; done) | decide +kernel)) hw hn (fun m => own_ef3 m v0 v2 v3 v5) (fun p e s m below meth c T C A => w3_0 C A v0 v2 v3 v5)
/-! Window.ctor -/
theorem own_d4_0 : decode prog_57_method_1_code 0 = .ok (.aload_n 0, 1) := by decide +kernel
theorem own_d4_1 : decode prog_57_method_1_code 1 = .ok (.invokespecial 1, 3) := by decide +kernel
theorem own_d4_4 : decode prog_57_method_1_code 4 = .ok (.aload_n 0, 1) := by decide +kernel
theorem own_d4_5 : decode prog_57_method_1_code 5 = .ok (.ldc2_w 9, 3) := by decide +kernel
theorem own_d4_8 : decode prog_57_method_1_code 8 = .ok (.putfield 11, 3) := by decide +kernel
theorem own_d4_11 : decode prog_57_method_1_code 11 = .ok (.aload_n 0, 1) := by decide +kernel
theorem own_d4_12 : decode prog_57_method_1_code 12 = .ok (.ldc2_w 17, 3) := by decide +kernel
theorem own_d4_15 : decode prog_57_method_1_code 15 = .ok (.putfield 19, 3) := by decide +kernel
theorem own_d4_18 : decode prog_57_method_1_code 18 = .ok (.aload_n 0, 1) := by decide +kernel
theorem own_d4_19 : decode prog_57_method_1_code 19 = .ok (.ldc2_w 17, 3) := by decide +kernel
theorem own_d4_22 : decode prog_57_method_1_code 22 = .ok (.putfield 22, 3) := by decide +kernel
theorem own_d4_25 : decode prog_57_method_1_code 25 = .ok (.return_, 1) := by decide +kernel
def own_R4 : Room := { frames := 1, cells := 0, slots := 0, locals := 12 }
def own_P4 (Z : State) (h : Heap) (v0 : Addr) (r : Int64 × Int64 × Int64) (v : Option Value) (h' : Heap) : Prop := v = none ∧ Keep h h' [v0] ∧ Exa Z h' v0 "com/example/fit50/fit50/io/Window" ∧ Fld Z h' v0 "com/example/fit50/fit50/io/Window" "earliest" "J" (.long r.1) ∧ Fld Z h' v0 "com/example/fit50/fit50/io/Window" "latest" "J" (.long r.2.1) ∧ Fld Z h' v0 "com/example/fit50/fit50/io/Window" "beforeLatest" "J" (.long r.2.2)
def f4_0  : Int64 × Int64 × Int64 := ((9223372036854775807 : Int64), (-9223372036854775808 : Int64), (-9223372036854775808 : Int64))
set_option maxRecDepth 65536 in
set_option maxHeartbeats 4000000 in
theorem w4_0 {Z : State} {a0 : Array Value} {p : Program} {l : Launch} {e : Env} {s : State} {m : MethodId} {args : Array Value} {below : List Frame} {meth : Method} {c : Code} {T : State} {h : Heap} {n0 : Nat} {hE : Heap} {v0 : Addr} {o_earliest_v0 : Value} {o_latest_v0 : Value} {o_beforeLatest_v0 : Value} (C : own_Cx Z a0 p l e own_R4 s m args below meth c "com/example/fit50/fit50/io/Window" "<init>" prog_57_method_1_code 1 none) (A : own_At p l e own_R4 s m args below meth c T h n0 0 0) (F_earliest_v0 : Fld Z h v0 "com/example/fit50/fit50/io/Window" "earliest" "J" o_earliest_v0) (F_latest_v0 : Fld Z h v0 "com/example/fit50/fit50/io/Window" "latest" "J" o_latest_v0) (F_beforeLatest_v0 : Fld Z h v0 "com/example/fit50/fit50/io/Window" "beforeLatest" "J" o_beforeLatest_v0) (E_v0 : Exa Z h v0 "com/example/fit50/fit50/io/Window") (g_v0 : n0 ≤ v0) (K : Keep hE h [v0]) :
    own_Go p.tables e below (T.setTop (mkF m 0 #[.val (.ref v0)] [])) (own_QR s n0 0 0 (own_P4 Z hE v0 (f4_0))) := by
  unfold f4_0
  refine own_aloadN C A own_d4_0 rfl rfl rfl ?_
  refine own_initO C A 0 (own_w C 20 rfl) (own_w C 21 rfl) (own_w C 22 rfl) rfl own_d4_1 rfl (by decide) (Nat.le_of_eq rfl) (by decide) (fun T A => ?_)
  refine own_aloadN C A own_d4_4 rfl rfl rfl ?_
  refine own_ldcJ C A (own_w C 23 rfl) own_d4_5 rfl ?_
  refine own_putF C A .long (own_w C 24 rfl) F_earliest_v0 E_v0 (Or.inl (own_w C 25 rfl)) (own_w C 15 rfl) (by decide) rfl rfl g_v0 own_d4_8 rfl (fun T h W A => ?_)
  have F_earliest_v0 := Fld.same W F_earliest_v0
  have F_latest_v0 := Fld.other W F_latest_v0 (Or.inr (slot_ne (Or.inl (own_w C 28 rfl)) (Or.inl (own_w C 25 rfl)) (by decide) (by decide : parseFieldDescriptor _ = some .long) (by decide : parseFieldDescriptor _ = some .long)))
  have F_beforeLatest_v0 := Fld.other W F_beforeLatest_v0 (Or.inr (slot_ne (Or.inl (own_w C 30 rfl)) (Or.inl (own_w C 25 rfl)) (by decide) (by decide : parseFieldDescriptor _ = some .long) (by decide : parseFieldDescriptor _ = some .long)))
  have E_v0 := Exa.wr W E_v0
  have K := K.wr W (Or.inl (List.mem_of_getElem? (i := 0) rfl))
  refine own_aloadN C A own_d4_11 rfl rfl rfl ?_
  refine own_ldcJ C A (own_w C 26 rfl) own_d4_12 rfl ?_
  refine own_putF C A .long (own_w C 27 rfl) F_latest_v0 E_v0 (Or.inl (own_w C 28 rfl)) (own_w C 15 rfl) (by decide) rfl rfl g_v0 own_d4_15 rfl (fun T h W A => ?_)
  have F_earliest_v0 := Fld.other W F_earliest_v0 (Or.inr (slot_ne (Or.inl (own_w C 25 rfl)) (Or.inl (own_w C 28 rfl)) (by decide) (by decide : parseFieldDescriptor _ = some .long) (by decide : parseFieldDescriptor _ = some .long)))
  have F_latest_v0 := Fld.same W F_latest_v0
  have F_beforeLatest_v0 := Fld.other W F_beforeLatest_v0 (Or.inr (slot_ne (Or.inl (own_w C 30 rfl)) (Or.inl (own_w C 28 rfl)) (by decide) (by decide : parseFieldDescriptor _ = some .long) (by decide : parseFieldDescriptor _ = some .long)))
  have E_v0 := Exa.wr W E_v0
  have K := K.wr W (Or.inl (List.mem_of_getElem? (i := 0) rfl))
  refine own_aloadN C A own_d4_18 rfl rfl rfl ?_
  refine own_ldcJ C A (own_w C 26 rfl) own_d4_19 rfl ?_
  refine own_putF C A .long (own_w C 29 rfl) F_beforeLatest_v0 E_v0 (Or.inl (own_w C 30 rfl)) (own_w C 15 rfl) (by decide) rfl rfl g_v0 own_d4_22 rfl (fun T h W A => ?_)
  have F_earliest_v0 := Fld.other W F_earliest_v0 (Or.inr (slot_ne (Or.inl (own_w C 25 rfl)) (Or.inl (own_w C 30 rfl)) (by decide) (by decide : parseFieldDescriptor _ = some .long) (by decide : parseFieldDescriptor _ = some .long)))
  have F_latest_v0 := Fld.other W F_latest_v0 (Or.inr (slot_ne (Or.inl (own_w C 28 rfl)) (Or.inl (own_w C 30 rfl)) (by decide) (by decide : parseFieldDescriptor _ = some .long) (by decide : parseFieldDescriptor _ = some .long)))
  have F_beforeLatest_v0 := Fld.same W F_beforeLatest_v0
  have E_v0 := Exa.wr W E_v0
  have K := K.wr W (Or.inl (List.mem_of_getElem? (i := 0) rfl))
  exact own_ret0 C A own_d4_25 ⟨rfl, K, E_v0, F_earliest_v0, F_latest_v0, F_beforeLatest_v0⟩
theorem own_ef4 (m : MethodId) (v0 : Addr) : entryFrame m #[(.ref v0)] 1 = mkF m 0 #[.val (.ref v0)] [] := by first | (simp [entryFrame, mkF, argsToLocals, Value.category]; done) | rfl
theorem rm4 (l : Launch) (Z : State) (a0 : Array Value) (hw : ∀ d ∈ tables_1, d.before a0 Z = true) (ws : List Jvm.Cond) (v0 : Addr) (o_earliest_v0 : Value) (o_latest_v0 : Value) (o_beforeLatest_v0 : Value) (h : Heap) (n0 : Nat) (hn : n0 ≤ h.size) (F_earliest_v0 : Fld Z h v0 "com/example/fit50/fit50/io/Window" "earliest" "J" o_earliest_v0) (F_latest_v0 : Fld Z h v0 "com/example/fit50/fit50/io/Window" "latest" "J" o_latest_v0) (F_beforeLatest_v0 : Fld Z h v0 "com/example/fit50/fit50/io/Window" "beforeLatest" "J" o_beforeLatest_v0) (E_v0 : Exa Z h v0 "com/example/fit50/fit50/io/Window") (g_v0 : n0 ≤ v0) :
    MetFree l (⟨"com/example/fit50/fit50/io/Window", "<init>", "()V"⟩ : MethodName) (head1 (Jvm.Cond.code (⟨"com/example/fit50/fit50/io/Window", "<init>", "()V"⟩ : MethodName) prog_57_method_1_code 1 none :: ws) own_R4) (fun a U => a = #[(.ref v0)] ∧ Z.Warmed39 U.vm ∧ U.heap = h) (fun _ _ _ _ _ => True) (fun _ U o U' => own_QR U n0 0 0 (own_P4 Z h v0 (f4_0)) o U') :=
  own_met (plainFor_of_name (by first | (simp [plainName, overriddenIn]; done) | decide +kernel)) hw hn (fun m => own_ef4 m v0) (fun p e s m below meth c T C A => w4_0 C A F_earliest_v0 F_latest_v0 F_beforeLatest_v0 E_v0 g_v0 (Keep.refl h _))
/-! Window.add -/
theorem own_d5_0 : decode prog_57_method_2_code 0 = .ok (.aload_n 0, 1) := by decide +kernel
theorem own_d5_1 : decode prog_57_method_2_code 1 = .ok (.aload_n 0, 1) := by decide +kernel
theorem own_d5_2 : decode prog_57_method_2_code 2 = .ok (.getfield 11, 3) := by decide +kernel
theorem own_d5_5 : decode prog_57_method_2_code 5 = .ok (.lload_n 1, 1) := by decide +kernel
theorem own_d5_6 : decode prog_57_method_2_code 6 = .ok (.invokestatic 25, 3) := by decide +kernel
theorem own_d5_9 : decode prog_57_method_2_code 9 = .ok (.putfield 11, 3) := by decide +kernel
theorem own_d5_12 : decode prog_57_method_2_code 12 = .ok (.lload_n 1, 1) := by decide +kernel
theorem own_d5_13 : decode prog_57_method_2_code 13 = .ok (.aload_n 0, 1) := by decide +kernel
theorem own_d5_14 : decode prog_57_method_2_code 14 = .ok (.getfield 19, 3) := by decide +kernel
theorem own_d5_17 : decode prog_57_method_2_code 17 = .ok (.lcmp, 1) := by decide +kernel
theorem own_d5_18 : decode prog_57_method_2_code 18 = .ok (.ifCond .le 19, 3) := by decide +kernel
theorem own_d5_21 : decode prog_57_method_2_code 21 = .ok (.aload_n 0, 1) := by decide +kernel
theorem own_d5_22 : decode prog_57_method_2_code 22 = .ok (.aload_n 0, 1) := by decide +kernel
theorem own_d5_23 : decode prog_57_method_2_code 23 = .ok (.getfield 19, 3) := by decide +kernel
theorem own_d5_26 : decode prog_57_method_2_code 26 = .ok (.putfield 22, 3) := by decide +kernel
theorem own_d5_29 : decode prog_57_method_2_code 29 = .ok (.aload_n 0, 1) := by decide +kernel
theorem own_d5_30 : decode prog_57_method_2_code 30 = .ok (.lload_n 1, 1) := by decide +kernel
theorem own_d5_31 : decode prog_57_method_2_code 31 = .ok (.putfield 19, 3) := by decide +kernel
theorem own_d5_34 : decode prog_57_method_2_code 34 = .ok (.goto 24, 3) := by decide +kernel
theorem own_d5_37 : decode prog_57_method_2_code 37 = .ok (.lload_n 1, 1) := by decide +kernel
theorem own_d5_38 : decode prog_57_method_2_code 38 = .ok (.aload_n 0, 1) := by decide +kernel
theorem own_d5_39 : decode prog_57_method_2_code 39 = .ok (.getfield 19, 3) := by decide +kernel
theorem own_d5_42 : decode prog_57_method_2_code 42 = .ok (.lcmp, 1) := by decide +kernel
theorem own_d5_43 : decode prog_57_method_2_code 43 = .ok (.ifCond .ge 15, 3) := by decide +kernel
theorem own_d5_46 : decode prog_57_method_2_code 46 = .ok (.aload_n 0, 1) := by decide +kernel
theorem own_d5_47 : decode prog_57_method_2_code 47 = .ok (.aload_n 0, 1) := by decide +kernel
theorem own_d5_48 : decode prog_57_method_2_code 48 = .ok (.getfield 22, 3) := by decide +kernel
theorem own_d5_51 : decode prog_57_method_2_code 51 = .ok (.lload_n 1, 1) := by decide +kernel
theorem own_d5_52 : decode prog_57_method_2_code 52 = .ok (.invokestatic 31, 3) := by decide +kernel
theorem own_d5_55 : decode prog_57_method_2_code 55 = .ok (.putfield 22, 3) := by decide +kernel
theorem own_d5_58 : decode prog_57_method_2_code 58 = .ok (.return_, 1) := by decide +kernel
def own_R5 : Room := { frames := 1, cells := 0, slots := 0, locals := 16 }
def own_P5 (Z : State) (h : Heap) (v0 : Addr) (r : Int64 × Int64 × Int64) (v : Option Value) (h' : Heap) : Prop := v = none ∧ Keep h h' [v0] ∧ Exa Z h' v0 "com/example/fit50/fit50/io/Window" ∧ Fld Z h' v0 "com/example/fit50/fit50/io/Window" "earliest" "J" (.long r.1) ∧ Fld Z h' v0 "com/example/fit50/fit50/io/Window" "latest" "J" (.long r.2.1) ∧ Fld Z h' v0 "com/example/fit50/fit50/io/Window" "beforeLatest" "J" (.long r.2.2)
def f5_0 (v1 : Int64) (earliest_v0 : Int64) (latest_v0 : Int64) (beforeLatest_v0 : Int64) : Int64 × Int64 × Int64 := (if latest_v0 < v1 then ((f1_0 earliest_v0 v1), v1, latest_v0) else (if v1 < latest_v0 then ((f1_0 earliest_v0 v1), latest_v0, (f2_0 beforeLatest_v0 v1)) else ((f1_0 earliest_v0 v1), latest_v0, beforeLatest_v0)))
set_option maxRecDepth 65536 in
set_option maxHeartbeats 4000000 in
theorem w5_0 {Z : State} {a0 : Array Value} {p : Program} {l : Launch} {e : Env} {s : State} {m : MethodId} {args : Array Value} {below : List Frame} {meth : Method} {c : Code} {T : State} {h : Heap} {n0 : Nat} {hE : Heap} {v0 : Addr} (C : own_Cx Z a0 p l e own_R5 s m args below meth c "com/example/fit50/fit50/io/Window" "add" prog_57_method_2_code 3 none) (A : own_At p l e own_R5 s m args below meth c T h n0 0 0) (v1 : Int64) (earliest_v0 : Int64) (latest_v0 : Int64) (beforeLatest_v0 : Int64) (F_earliest_v0 : Fld Z h v0 "com/example/fit50/fit50/io/Window" "earliest" "J" (.long earliest_v0)) (F_latest_v0 : Fld Z h v0 "com/example/fit50/fit50/io/Window" "latest" "J" (.long latest_v0)) (F_beforeLatest_v0 : Fld Z h v0 "com/example/fit50/fit50/io/Window" "beforeLatest" "J" (.long beforeLatest_v0)) (E_v0 : Exa Z h v0 "com/example/fit50/fit50/io/Window") (g_v0 : n0 ≤ v0) (K : Keep hE h [v0]) :
    own_Go p.tables e below (T.setTop (mkF m 0 #[.val (.ref v0), .val (.long v1), .second] [])) (own_QR s n0 0 0 (own_P5 Z hE v0 (f5_0 v1 earliest_v0 latest_v0 beforeLatest_v0))) := by
  unfold f5_0
  refine own_aloadN C A own_d5_0 rfl rfl rfl ?_
  refine own_aloadN C A own_d5_1 rfl rfl rfl ?_
  refine own_getF C A (own_w C 24 rfl) F_earliest_v0 own_d5_2 rfl (fun T A => ?_)
  refine own_lloadN C A own_d5_5 rfl rfl ?_
  refine own_callSJ C A 1 [(.long earliest_v0), (.long v1)] [(.ref v0)] (own_w C 36 rfl) (own_w C 8 rfl) (own_w C 5 rfl) (own_w C 9 rfl) (by decide) (rm1 l Z a0 C.2.2.2.2.2.2.2.2 [] earliest_v0 v1 _ _ (own_size A)) rfl rfl (by decide) (by decide) (by decide) (by decide) own_pd0 rfl rfl rfl (Nat.le_of_eq rfl) rfl own_d5_6 rfl (fun T A => ?_)
  refine own_putF C A .long (own_w C 24 rfl) F_earliest_v0 E_v0 (Or.inl (own_w C 25 rfl)) (own_w C 15 rfl) (by decide) rfl rfl g_v0 own_d5_9 rfl (fun T h W A => ?_)
  have F_earliest_v0 := Fld.same W F_earliest_v0
  have F_latest_v0 := Fld.other W F_latest_v0 (Or.inr (slot_ne (Or.inl (own_w C 28 rfl)) (Or.inl (own_w C 25 rfl)) (by decide) (by decide : parseFieldDescriptor _ = some .long) (by decide : parseFieldDescriptor _ = some .long)))
  have F_beforeLatest_v0 := Fld.other W F_beforeLatest_v0 (Or.inr (slot_ne (Or.inl (own_w C 30 rfl)) (Or.inl (own_w C 25 rfl)) (by decide) (by decide : parseFieldDescriptor _ = some .long) (by decide : parseFieldDescriptor _ = some .long)))
  have E_v0 := Exa.wr W E_v0
  have K := K.wr W (Or.inl (List.mem_of_getElem? (i := 0) rfl))
  refine own_lloadN C A own_d5_12 rfl rfl ?_
  refine own_aloadN C A own_d5_13 rfl rfl rfl ?_
  refine own_getF C A (own_w C 27 rfl) F_latest_v0 own_d5_14 rfl (fun T A => ?_)
  refine own_lcmp C A own_d5_17 rfl ?_
  refine own_ite (fun hc18 => ?_) (fun hc18 => ?_)
  · refine own_ifN C A own_d5_18 (Jvm.Free.XT.ll_le_f hc18) rfl ?_
    refine own_aloadN C A own_d5_21 rfl rfl rfl ?_
    refine own_aloadN C A own_d5_22 rfl rfl rfl ?_
    refine own_getF C A (own_w C 27 rfl) F_latest_v0 own_d5_23 rfl (fun T A => ?_)
    refine own_putF C A .long (own_w C 29 rfl) F_beforeLatest_v0 E_v0 (Or.inl (own_w C 30 rfl)) (own_w C 15 rfl) (by decide) rfl rfl g_v0 own_d5_26 rfl (fun T h W A => ?_)
    have F_earliest_v0 := Fld.other W F_earliest_v0 (Or.inr (slot_ne (Or.inl (own_w C 25 rfl)) (Or.inl (own_w C 30 rfl)) (by decide) (by decide : parseFieldDescriptor _ = some .long) (by decide : parseFieldDescriptor _ = some .long)))
    have F_latest_v0 := Fld.other W F_latest_v0 (Or.inr (slot_ne (Or.inl (own_w C 28 rfl)) (Or.inl (own_w C 30 rfl)) (by decide) (by decide : parseFieldDescriptor _ = some .long) (by decide : parseFieldDescriptor _ = some .long)))
    have F_beforeLatest_v0 := Fld.same W F_beforeLatest_v0
    have E_v0 := Exa.wr W E_v0
    have K := K.wr W (Or.inl (List.mem_of_getElem? (i := 0) rfl))
    refine own_aloadN C A own_d5_29 rfl rfl rfl ?_
    refine own_lloadN C A own_d5_30 rfl rfl ?_
    refine own_putF C A .long (own_w C 27 rfl) F_latest_v0 E_v0 (Or.inl (own_w C 28 rfl)) (own_w C 15 rfl) (by decide) rfl rfl g_v0 own_d5_31 rfl (fun T h W A => ?_)
    have F_earliest_v0 := Fld.other W F_earliest_v0 (Or.inr (slot_ne (Or.inl (own_w C 25 rfl)) (Or.inl (own_w C 28 rfl)) (by decide) (by decide : parseFieldDescriptor _ = some .long) (by decide : parseFieldDescriptor _ = some .long)))
    have F_latest_v0 := Fld.same W F_latest_v0
    have F_beforeLatest_v0 := Fld.other W F_beforeLatest_v0 (Or.inr (slot_ne (Or.inl (own_w C 30 rfl)) (Or.inl (own_w C 28 rfl)) (by decide) (by decide : parseFieldDescriptor _ = some .long) (by decide : parseFieldDescriptor _ = some .long)))
    have E_v0 := Exa.wr W E_v0
    have K := K.wr W (Or.inl (List.mem_of_getElem? (i := 0) rfl))
    refine own_goto C A own_d5_34 (by decide) (q := 58) (by decide) ?_
    exact own_ret0 C A own_d5_58 ⟨rfl, K, E_v0, F_earliest_v0, F_latest_v0, F_beforeLatest_v0⟩
  · refine own_ifY C A own_d5_18 (Jvm.Free.XT.ll_le_t hc18) (by decide) (q := 37) (by decide) ?_
    refine own_lloadN C A own_d5_37 rfl rfl ?_
    refine own_aloadN C A own_d5_38 rfl rfl rfl ?_
    refine own_getF C A (own_w C 27 rfl) F_latest_v0 own_d5_39 rfl (fun T A => ?_)
    refine own_lcmp C A own_d5_42 rfl ?_
    refine own_ite (fun hc43 => ?_) (fun hc43 => ?_)
    · refine own_ifN C A own_d5_43 (Jvm.Free.XT.ll_ge_f hc43) rfl ?_
      refine own_aloadN C A own_d5_46 rfl rfl rfl ?_
      refine own_aloadN C A own_d5_47 rfl rfl rfl ?_
      refine own_getF C A (own_w C 29 rfl) F_beforeLatest_v0 own_d5_48 rfl (fun T A => ?_)
      refine own_lloadN C A own_d5_51 rfl rfl ?_
      refine own_callSJ C A 1 [(.long beforeLatest_v0), (.long v1)] [(.ref v0)] (own_w C 37 rfl) (own_w C 4 rfl) (own_w C 5 rfl) (own_w C 6 rfl) (by decide) (rm2 l Z a0 C.2.2.2.2.2.2.2.2 [] beforeLatest_v0 v1 _ _ (own_size A)) rfl rfl (by decide) (by decide) (by decide) (by decide) own_pd0 rfl rfl rfl (Nat.le_of_eq rfl) rfl own_d5_52 rfl (fun T A => ?_)
      refine own_putF C A .long (own_w C 29 rfl) F_beforeLatest_v0 E_v0 (Or.inl (own_w C 30 rfl)) (own_w C 15 rfl) (by decide) rfl rfl g_v0 own_d5_55 rfl (fun T h W A => ?_)
      have F_earliest_v0 := Fld.other W F_earliest_v0 (Or.inr (slot_ne (Or.inl (own_w C 25 rfl)) (Or.inl (own_w C 30 rfl)) (by decide) (by decide : parseFieldDescriptor _ = some .long) (by decide : parseFieldDescriptor _ = some .long)))
      have F_latest_v0 := Fld.other W F_latest_v0 (Or.inr (slot_ne (Or.inl (own_w C 28 rfl)) (Or.inl (own_w C 30 rfl)) (by decide) (by decide : parseFieldDescriptor _ = some .long) (by decide : parseFieldDescriptor _ = some .long)))
      have F_beforeLatest_v0 := Fld.same W F_beforeLatest_v0
      have E_v0 := Exa.wr W E_v0
      have K := K.wr W (Or.inl (List.mem_of_getElem? (i := 0) rfl))
      exact own_ret0 C A own_d5_58 ⟨rfl, K, E_v0, F_earliest_v0, F_latest_v0, F_beforeLatest_v0⟩
    · refine own_ifY C A own_d5_43 (Jvm.Free.XT.ll_ge_t hc43) (by decide) (q := 58) (by decide) ?_
      exact own_ret0 C A own_d5_58 ⟨rfl, K, E_v0, F_earliest_v0, F_latest_v0, F_beforeLatest_v0⟩
theorem own_ef5 (m : MethodId) (v0 : Addr) (v1 : Int64) : entryFrame m #[(.ref v0), (.long v1)] 3 = mkF m 0 #[.val (.ref v0), .val (.long v1), .second] [] := by first | (simp [entryFrame, mkF, argsToLocals, Value.category]; done) | rfl
theorem rm5 (l : Launch) (Z : State) (a0 : Array Value) (hw : ∀ d ∈ tables_1, d.before a0 Z = true) (ws : List Jvm.Cond) (v0 : Addr) (v1 : Int64) (earliest_v0 : Int64) (latest_v0 : Int64) (beforeLatest_v0 : Int64) (h : Heap) (n0 : Nat) (hn : n0 ≤ h.size) (F_earliest_v0 : Fld Z h v0 "com/example/fit50/fit50/io/Window" "earliest" "J" (.long earliest_v0)) (F_latest_v0 : Fld Z h v0 "com/example/fit50/fit50/io/Window" "latest" "J" (.long latest_v0)) (F_beforeLatest_v0 : Fld Z h v0 "com/example/fit50/fit50/io/Window" "beforeLatest" "J" (.long beforeLatest_v0)) (E_v0 : Exa Z h v0 "com/example/fit50/fit50/io/Window") (g_v0 : n0 ≤ v0) :
    MetFree l (⟨"com/example/fit50/fit50/io/Window", "add", "(J)V"⟩ : MethodName) (head1 (Jvm.Cond.code (⟨"com/example/fit50/fit50/io/Window", "add", "(J)V"⟩ : MethodName) prog_57_method_2_code 3 none :: ws) own_R5) (fun a U => a = #[(.ref v0), (.long v1)] ∧ Z.Warmed39 U.vm ∧ U.heap = h) (fun _ _ _ _ _ => True) (fun _ U o U' => own_QR U n0 0 0 (own_P5 Z h v0 (f5_0 v1 earliest_v0 latest_v0 beforeLatest_v0)) o U') :=
  own_met (plainFor_of_name (by first | (simp [plainName, overriddenIn]; done) | decide +kernel)) hw hn (fun m => own_ef5 m v0 v1) (fun p e s m below meth c T C A => w5_0 C A v1 earliest_v0 latest_v0 beforeLatest_v0 F_earliest_v0 F_latest_v0 F_beforeLatest_v0 E_v0 g_v0 (Keep.refl h _))
/-! Window.start -/
theorem own_d6_0 : decode prog_57_method_3_code 0 = .ok (.aload_n 0, 1) := by decide +kernel
theorem own_d6_1 : decode prog_57_method_3_code 1 = .ok (.getfield 11, 3) := by decide +kernel
theorem own_d6_4 : decode prog_57_method_3_code 4 = .ok (.lreturn, 1) := by decide +kernel
def own_R6 : Room := { frames := 0, cells := 0, slots := 0, locals := 0 }
def f6_0 (earliest_v0 : Int64) (latest_v0 : Int64) (beforeLatest_v0 : Int64) : Int64 := earliest_v0
set_option maxRecDepth 65536 in
set_option maxHeartbeats 4000000 in
theorem w6_0 {Z : State} {a0 : Array Value} {p : Program} {l : Launch} {e : Env} {s : State} {m : MethodId} {args : Array Value} {below : List Frame} {meth : Method} {c : Code} {T : State} {h : Heap} {n0 : Nat} {v0 : Addr} (C : own_Cx Z a0 p l e own_R6 s m args below meth c "com/example/fit50/fit50/io/Window" "start" prog_57_method_3_code 1 (some .long)) (A : own_At p l e own_R6 s m args below meth c T h n0 0 0) (earliest_v0 : Int64) (latest_v0 : Int64) (beforeLatest_v0 : Int64) (F_earliest_v0 : Fld Z h v0 "com/example/fit50/fit50/io/Window" "earliest" "J" (.long earliest_v0)) (F_latest_v0 : Fld Z h v0 "com/example/fit50/fit50/io/Window" "latest" "J" (.long latest_v0)) (F_beforeLatest_v0 : Fld Z h v0 "com/example/fit50/fit50/io/Window" "beforeLatest" "J" (.long beforeLatest_v0)) (E_v0 : Exa Z h v0 "com/example/fit50/fit50/io/Window") :
    own_Go p.tables e below (T.setTop (mkF m 0 #[.val (.ref v0)] [])) (own_QR s n0 0 0 (own_RJ h (f6_0 earliest_v0 latest_v0 beforeLatest_v0))) := by
  unfold f6_0
  refine own_aloadN C A own_d6_0 rfl rfl rfl ?_
  refine own_getF C A (own_w C 24 rfl) F_earliest_v0 own_d6_1 rfl (fun T A => ?_)
  exact own_retJ C A own_d6_4 ⟨rfl, rfl⟩
theorem own_ef6 (m : MethodId) (v0 : Addr) : entryFrame m #[(.ref v0)] 1 = mkF m 0 #[.val (.ref v0)] [] := by first | (simp [entryFrame, mkF, argsToLocals, Value.category]; done) | rfl
theorem rm6 (l : Launch) (Z : State) (a0 : Array Value) (hw : ∀ d ∈ tables_1, d.before a0 Z = true) (ws : List Jvm.Cond) (v0 : Addr) (earliest_v0 : Int64) (latest_v0 : Int64) (beforeLatest_v0 : Int64) (h : Heap) (n0 : Nat) (hn : n0 ≤ h.size) (F_earliest_v0 : Fld Z h v0 "com/example/fit50/fit50/io/Window" "earliest" "J" (.long earliest_v0)) (F_latest_v0 : Fld Z h v0 "com/example/fit50/fit50/io/Window" "latest" "J" (.long latest_v0)) (F_beforeLatest_v0 : Fld Z h v0 "com/example/fit50/fit50/io/Window" "beforeLatest" "J" (.long beforeLatest_v0)) (E_v0 : Exa Z h v0 "com/example/fit50/fit50/io/Window") :
    MetFree l (⟨"com/example/fit50/fit50/io/Window", "start", "()J"⟩ : MethodName) (head1 (Jvm.Cond.code (⟨"com/example/fit50/fit50/io/Window", "start", "()J"⟩ : MethodName) prog_57_method_3_code 1 (some .long) :: ws) own_R6) (fun a U => a = #[(.ref v0)] ∧ Z.Warmed39 U.vm ∧ U.heap = h) (fun _ _ _ _ _ => True) (fun _ U o U' => own_QR U n0 0 0 (own_RJ h (f6_0 earliest_v0 latest_v0 beforeLatest_v0)) o U') :=
  own_met (plainFor_of_name (by first | (simp [plainName, overriddenIn]; done) | decide +kernel)) hw hn (fun m => own_ef6 m v0) (fun p e s m below meth c T C A => w6_0 C A earliest_v0 latest_v0 beforeLatest_v0 F_earliest_v0 F_latest_v0 F_beforeLatest_v0 E_v0)
/-! Window.seconds -/
theorem own_d7_0 : decode prog_57_method_4_code 0 = .ok (.aload_n 0, 1) := by decide +kernel
theorem own_d7_1 : decode prog_57_method_4_code 1 = .ok (.getfield 22, 3) := by decide +kernel
theorem own_d7_4 : decode prog_57_method_4_code 4 = .ok (.ldc2_w 17, 3) := by decide +kernel
theorem own_d7_7 : decode prog_57_method_4_code 7 = .ok (.lcmp, 1) := by decide +kernel
theorem own_d7_8 : decode prog_57_method_4_code 8 = .ok (.ifCond .ne 7, 3) := by decide +kernel
theorem own_d7_11 : decode prog_57_method_4_code 11 = .ok (.lconst 1, 1) := by decide +kernel
theorem own_d7_12 : decode prog_57_method_4_code 12 = .ok (.goto 12, 3) := by decide +kernel
theorem own_d7_15 : decode prog_57_method_4_code 15 = .ok (.aload_n 0, 1) := by decide +kernel
theorem own_d7_16 : decode prog_57_method_4_code 16 = .ok (.getfield 19, 3) := by decide +kernel
theorem own_d7_19 : decode prog_57_method_4_code 19 = .ok (.aload_n 0, 1) := by decide +kernel
theorem own_d7_20 : decode prog_57_method_4_code 20 = .ok (.getfield 22, 3) := by decide +kernel
theorem own_d7_23 : decode prog_57_method_4_code 23 = .ok (.lsub, 1) := by decide +kernel
theorem own_d7_24 : decode prog_57_method_4_code 24 = .ok (.lstore_n 1, 1) := by decide +kernel
theorem own_d7_25 : decode prog_57_method_4_code 25 = .ok (.aload_n 0, 1) := by decide +kernel
theorem own_d7_26 : decode prog_57_method_4_code 26 = .ok (.getfield 19, 3) := by decide +kernel
theorem own_d7_29 : decode prog_57_method_4_code 29 = .ok (.aload_n 0, 1) := by decide +kernel
theorem own_d7_30 : decode prog_57_method_4_code 30 = .ok (.getfield 11, 3) := by decide +kernel
theorem own_d7_33 : decode prog_57_method_4_code 33 = .ok (.lsub, 1) := by decide +kernel
theorem own_d7_34 : decode prog_57_method_4_code 34 = .ok (.lload_n 1, 1) := by decide +kernel
theorem own_d7_35 : decode prog_57_method_4_code 35 = .ok (.ladd, 1) := by decide +kernel
theorem own_d7_36 : decode prog_57_method_4_code 36 = .ok (.lreturn, 1) := by decide +kernel
def own_R7 : Room := { frames := 0, cells := 0, slots := 0, locals := 0 }
def f7_24 (s0 : Int64) (earliest_v0 : Int64) (latest_v0 : Int64) (beforeLatest_v0 : Int64) : Int64 := ((latest_v0 - earliest_v0) + s0)
set_option maxRecDepth 65536 in
set_option maxHeartbeats 4000000 in
theorem w7_24 {Z : State} {a0 : Array Value} {p : Program} {l : Launch} {e : Env} {s : State} {m : MethodId} {args : Array Value} {below : List Frame} {meth : Method} {c : Code} {T : State} {h : Heap} {n0 : Nat} {v0 : Addr} (C : own_Cx Z a0 p l e own_R7 s m args below meth c "com/example/fit50/fit50/io/Window" "seconds" prog_57_method_4_code 3 (some .long)) (A : own_At p l e own_R7 s m args below meth c T h n0 0 0) (s0 : Int64) (earliest_v0 : Int64) (latest_v0 : Int64) (beforeLatest_v0 : Int64) (F_earliest_v0 : Fld Z h v0 "com/example/fit50/fit50/io/Window" "earliest" "J" (.long earliest_v0)) (F_latest_v0 : Fld Z h v0 "com/example/fit50/fit50/io/Window" "latest" "J" (.long latest_v0)) (F_beforeLatest_v0 : Fld Z h v0 "com/example/fit50/fit50/io/Window" "beforeLatest" "J" (.long beforeLatest_v0)) (E_v0 : Exa Z h v0 "com/example/fit50/fit50/io/Window") :
    own_Go p.tables e below (T.setTop (mkF m 24 #[.val (.ref v0), .unset, .unset] [(.long s0)])) (own_QR s n0 0 0 (own_RJ h (f7_24 s0 earliest_v0 latest_v0 beforeLatest_v0))) := by
  unfold f7_24
  refine own_lstoreN C A own_d7_24 (l' := #[.val (.ref v0), .val (.long s0), .second]) rfl rfl ?_
  refine own_aloadN C A own_d7_25 rfl rfl rfl ?_
  refine own_getF C A (own_w C 27 rfl) F_latest_v0 own_d7_26 rfl (fun T A => ?_)
  refine own_aloadN C A own_d7_29 rfl rfl rfl ?_
  refine own_getF C A (own_w C 24 rfl) F_earliest_v0 own_d7_30 rfl (fun T A => ?_)
  refine own_lsub C A own_d7_33 rfl ?_
  refine own_lloadN C A own_d7_34 rfl rfl ?_
  refine own_ladd C A own_d7_35 rfl ?_
  exact own_retJ C A own_d7_36 ⟨rfl, rfl⟩
def f7_0 (earliest_v0 : Int64) (latest_v0 : Int64) (beforeLatest_v0 : Int64) : Int64 := (if beforeLatest_v0 = (-9223372036854775808 : Int64) then (f7_24 (1 : Int64) earliest_v0 latest_v0 beforeLatest_v0) else (f7_24 (latest_v0 - beforeLatest_v0) earliest_v0 latest_v0 beforeLatest_v0))
set_option maxRecDepth 65536 in
set_option maxHeartbeats 4000000 in
theorem w7_0 {Z : State} {a0 : Array Value} {p : Program} {l : Launch} {e : Env} {s : State} {m : MethodId} {args : Array Value} {below : List Frame} {meth : Method} {c : Code} {T : State} {h : Heap} {n0 : Nat} {v0 : Addr} (C : own_Cx Z a0 p l e own_R7 s m args below meth c "com/example/fit50/fit50/io/Window" "seconds" prog_57_method_4_code 3 (some .long)) (A : own_At p l e own_R7 s m args below meth c T h n0 0 0) (earliest_v0 : Int64) (latest_v0 : Int64) (beforeLatest_v0 : Int64) (F_earliest_v0 : Fld Z h v0 "com/example/fit50/fit50/io/Window" "earliest" "J" (.long earliest_v0)) (F_latest_v0 : Fld Z h v0 "com/example/fit50/fit50/io/Window" "latest" "J" (.long latest_v0)) (F_beforeLatest_v0 : Fld Z h v0 "com/example/fit50/fit50/io/Window" "beforeLatest" "J" (.long beforeLatest_v0)) (E_v0 : Exa Z h v0 "com/example/fit50/fit50/io/Window") :
    own_Go p.tables e below (T.setTop (mkF m 0 #[.val (.ref v0), .unset, .unset] [])) (own_QR s n0 0 0 (own_RJ h (f7_0 earliest_v0 latest_v0 beforeLatest_v0))) := by
  unfold f7_0
  refine own_aloadN C A own_d7_0 rfl rfl rfl ?_
  refine own_getF C A (own_w C 29 rfl) F_beforeLatest_v0 own_d7_1 rfl (fun T A => ?_)
  refine own_ldcJ C A (own_w C 26 rfl) own_d7_4 rfl ?_
  refine own_lcmp C A own_d7_7 rfl ?_
  refine own_ite (fun hc8 => ?_) (fun hc8 => ?_)
  · refine own_ifN C A own_d7_8 (Jvm.Free.XT.ll_ne_f hc8) rfl ?_
    refine own_lconst C A own_d7_11 (v := 1) rfl rfl ?_
    refine own_goto C A own_d7_12 (by decide) (q := 24) (by decide) ?_
    exact w7_24 C A (1 : Int64) earliest_v0 latest_v0 beforeLatest_v0 F_earliest_v0 F_latest_v0 F_beforeLatest_v0 E_v0
  · refine own_ifY C A own_d7_8 (Jvm.Free.XT.ll_ne_t hc8) (by decide) (q := 15) (by decide) ?_
    refine own_aloadN C A own_d7_15 rfl rfl rfl ?_
    refine own_getF C A (own_w C 27 rfl) F_latest_v0 own_d7_16 rfl (fun T A => ?_)
    refine own_aloadN C A own_d7_19 rfl rfl rfl ?_
    refine own_getF C A (own_w C 29 rfl) F_beforeLatest_v0 own_d7_20 rfl (fun T A => ?_)
    refine own_lsub C A own_d7_23 rfl ?_
    exact w7_24 C A (latest_v0 - beforeLatest_v0) earliest_v0 latest_v0 beforeLatest_v0 F_earliest_v0 F_latest_v0 F_beforeLatest_v0 E_v0
theorem own_ef7 (m : MethodId) (v0 : Addr) : entryFrame m #[(.ref v0)] 3 = mkF m 0 #[.val (.ref v0), .unset, .unset] [] := by first | (simp [entryFrame, mkF, argsToLocals, Value.category]; done) | rfl
theorem rm7 (l : Launch) (Z : State) (a0 : Array Value) (hw : ∀ d ∈ tables_1, d.before a0 Z = true) (ws : List Jvm.Cond) (v0 : Addr) (earliest_v0 : Int64) (latest_v0 : Int64) (beforeLatest_v0 : Int64) (h : Heap) (n0 : Nat) (hn : n0 ≤ h.size) (F_earliest_v0 : Fld Z h v0 "com/example/fit50/fit50/io/Window" "earliest" "J" (.long earliest_v0)) (F_latest_v0 : Fld Z h v0 "com/example/fit50/fit50/io/Window" "latest" "J" (.long latest_v0)) (F_beforeLatest_v0 : Fld Z h v0 "com/example/fit50/fit50/io/Window" "beforeLatest" "J" (.long beforeLatest_v0)) (E_v0 : Exa Z h v0 "com/example/fit50/fit50/io/Window") :
    MetFree l (⟨"com/example/fit50/fit50/io/Window", "seconds", "()J"⟩ : MethodName) (head1 (Jvm.Cond.code (⟨"com/example/fit50/fit50/io/Window", "seconds", "()J"⟩ : MethodName) prog_57_method_4_code 3 (some .long) :: ws) own_R7) (fun a U => a = #[(.ref v0)] ∧ Z.Warmed39 U.vm ∧ U.heap = h) (fun _ _ _ _ _ => True) (fun _ U o U' => own_QR U n0 0 0 (own_RJ h (f7_0 earliest_v0 latest_v0 beforeLatest_v0)) o U') :=
  own_met (plainFor_of_name (by first | (simp [plainName, overriddenIn]; done) | decide +kernel)) hw hn (fun m => own_ef7 m v0) (fun p e s m below meth c T C A => w7_0 C A earliest_v0 latest_v0 beforeLatest_v0 F_earliest_v0 F_latest_v0 F_beforeLatest_v0 E_v0)

/-! WindowAddPinLaw.law -/
def f0_298 (v16 : Int64) (v22 : Int64) (earliest_v24 : Int64) (latest_v24 : Int64) (beforeLatest_v24 : Int64) : Int32 := (if (f6_0 earliest_v24 latest_v24 beforeLatest_v24) = v16 then (if (f7_0 earliest_v24 latest_v24 beforeLatest_v24) = v22 then (1 : Int32) else (0 : Int32)) else (0 : Int32))
set_option maxRecDepth 65536 in
set_option maxHeartbeats 4000000 in
theorem w0_298 {Z : State} {a0 : Array Value} {p : Program} {l : Launch} {e : Env} {s : State} {m : MethodId} {args : Array Value} {below : List Frame} {meth : Method} {c : Code} {T : State} {h : Heap} {n0 : Nat} {u0 : Int64} {u2 : Int64} {u4 : Int64} {u6 : Int64} {u8 : Int32} {u9 : Int32} {u10 : Int32} {u11 : Int32} {u12 : Int32} {u13 : Int32} {u14 : Int64} {u18 : Int64} {u20 : Int64} {v24 : Addr} (C : own_Cx Z a0 p l e room_1 s m args below meth c "com/example/fit50/fit50/io/WindowAddPinLaw" "law" code maxLocals ret) (A : own_At p l e room_1 s m args below meth c T h n0 1 3) (v16 : Int64) (v22 : Int64) (earliest_v24 : Int64) (latest_v24 : Int64) (beforeLatest_v24 : Int64) (F_earliest_v24 : Fld Z h v24 "com/example/fit50/fit50/io/Window" "earliest" "J" (.long earliest_v24)) (F_latest_v24 : Fld Z h v24 "com/example/fit50/fit50/io/Window" "latest" "J" (.long latest_v24)) (F_beforeLatest_v24 : Fld Z h v24 "com/example/fit50/fit50/io/Window" "beforeLatest" "J" (.long beforeLatest_v24)) (E_v24 : Exa Z h v24 "com/example/fit50/fit50/io/Window") (g_v24 : n0 ≤ v24) :
    own_Go p.tables e below (T.setTop (mkF m 298 #[.val (.long u0), .second, .val (.long u2), .second, .val (.long u4), .second, .val (.long u6), .second, .val (.int u8), .val (.int u9), .val (.int u10), .val (.int u11), .val (.int u12), .val (.int u13), .val (.long u14), .second, .val (.long v16), .second, .val (.long u18), .second, .val (.long u20), .second, .val (.long v22), .second, .val (.ref v24)] [])) (own_QR s n0 1 3 (own_RV (f0_298 v16 v22 earliest_v24 latest_v24 beforeLatest_v24))) := by
  unfold f0_298
  refine own_aload C A at_298 rfl rfl rfl ?_
  refine own_callVJ C A 0 [] [] (own_w C 38 rfl) (own_w C 39 rfl) (own_w C 41 rfl) (own_w C 40 rfl) (own_w C 16 rfl) (own_w C 42 rfl) (by decide) rfl E_v24 (rm6 l Z a0 C.2.2.2.2.2.2.2.2 [] v24 earliest_v24 latest_v24 beforeLatest_v24 _ _ (own_size A) F_earliest_v24 F_latest_v24 F_beforeLatest_v24 E_v24) rfl rfl (by decide) (by decide) (by decide) (by decide) own_pd4 rfl rfl rfl (Nat.le_of_eq rfl) rfl at_300 rfl (fun T A => ?_)
  refine own_lload C A at_303 rfl rfl ?_
  refine own_lcmp C A at_305 rfl ?_
  refine own_ite (fun hc306 => ?_) (fun hc306 => ?_)
  · refine own_ifN C A at_306 (Jvm.Free.XT.ll_ne_f hc306) rfl ?_
    refine own_aload C A at_309 rfl rfl rfl ?_
    refine own_callVJ C A 0 [] [] (own_w C 43 rfl) (own_w C 44 rfl) (own_w C 46 rfl) (own_w C 45 rfl) (own_w C 16 rfl) (own_w C 47 rfl) (by decide) rfl E_v24 (rm7 l Z a0 C.2.2.2.2.2.2.2.2 [] v24 earliest_v24 latest_v24 beforeLatest_v24 _ _ (own_size A) F_earliest_v24 F_latest_v24 F_beforeLatest_v24 E_v24) rfl rfl (by decide) (by decide) (by decide) (by decide) own_pd4 rfl rfl rfl (Nat.le_of_eq rfl) rfl at_311 rfl (fun T A => ?_)
    refine own_lload C A at_314 rfl rfl ?_
    refine own_lcmp C A at_316 rfl ?_
    refine own_ite (fun hc317 => ?_) (fun hc317 => ?_)
    · refine own_ifN C A at_317 (Jvm.Free.XT.ll_ne_f hc317) rfl ?_
      refine own_iconst C A at_320 (v := 1) rfl rfl ?_
      refine own_goto C A at_321 (by decide) (q := 325) (by decide) ?_
      exact own_retN C A (t := .boolean) (by simp) at_325 rfl
    · refine own_ifY C A at_317 (Jvm.Free.XT.ll_ne_t hc317) (by decide) (q := 324) (by decide) ?_
      refine own_iconst C A at_324 (v := 0) rfl rfl ?_
      exact own_retN C A (t := .boolean) (by simp) at_325 rfl
  · refine own_ifY C A at_306 (Jvm.Free.XT.ll_ne_t hc306) (by decide) (q := 324) (by decide) ?_
    refine own_iconst C A at_324 (v := 0) rfl rfl ?_
    exact own_retN C A (t := .boolean) (by simp) at_325 rfl
def f0_286 (v6 : Int64) (v13 : Int32) (v16 : Int64) (v22 : Int64) (earliest_v24 : Int64) (latest_v24 : Int64) (beforeLatest_v24 : Int64) : Int32 := (if v13 = (0 : Int32) then (f0_298 v16 v22 earliest_v24 latest_v24 beforeLatest_v24) else (f0_298 v16 v22 (f5_0 v6 earliest_v24 latest_v24 beforeLatest_v24).1 (f5_0 v6 earliest_v24 latest_v24 beforeLatest_v24).2.1 (f5_0 v6 earliest_v24 latest_v24 beforeLatest_v24).2.2))
set_option maxRecDepth 65536 in
set_option maxHeartbeats 4000000 in
theorem w0_286 {Z : State} {a0 : Array Value} {p : Program} {l : Launch} {e : Env} {s : State} {m : MethodId} {args : Array Value} {below : List Frame} {meth : Method} {c : Code} {T : State} {h : Heap} {n0 : Nat} {u0 : Int64} {u2 : Int64} {u4 : Int64} {u8 : Int32} {u9 : Int32} {u10 : Int32} {u11 : Int32} {u12 : Int32} {u14 : Int64} {u18 : Int64} {u20 : Int64} {v24 : Addr} (C : own_Cx Z a0 p l e room_1 s m args below meth c "com/example/fit50/fit50/io/WindowAddPinLaw" "law" code maxLocals ret) (A : own_At p l e room_1 s m args below meth c T h n0 1 3) (v6 : Int64) (v13 : Int32) (v16 : Int64) (v22 : Int64) (earliest_v24 : Int64) (latest_v24 : Int64) (beforeLatest_v24 : Int64) (F_earliest_v24 : Fld Z h v24 "com/example/fit50/fit50/io/Window" "earliest" "J" (.long earliest_v24)) (F_latest_v24 : Fld Z h v24 "com/example/fit50/fit50/io/Window" "latest" "J" (.long latest_v24)) (F_beforeLatest_v24 : Fld Z h v24 "com/example/fit50/fit50/io/Window" "beforeLatest" "J" (.long beforeLatest_v24)) (E_v24 : Exa Z h v24 "com/example/fit50/fit50/io/Window") (g_v24 : n0 ≤ v24) :
    own_Go p.tables e below (T.setTop (mkF m 286 #[.val (.long u0), .second, .val (.long u2), .second, .val (.long u4), .second, .val (.long v6), .second, .val (.int u8), .val (.int u9), .val (.int u10), .val (.int u11), .val (.int u12), .val (.int v13), .val (.long u14), .second, .val (.long v16), .second, .val (.long u18), .second, .val (.long u20), .second, .val (.long v22), .second, .val (.ref v24)] [])) (own_QR s n0 1 3 (own_RV (f0_286 v6 v13 v16 v22 earliest_v24 latest_v24 beforeLatest_v24))) := by
  unfold f0_286
  refine own_iload C A at_286 rfl rfl ?_
  refine own_ite (fun hc288 => ?_) (fun hc288 => ?_)
  · refine own_ifY C A at_288 (Jvm.Free.XT.i0_eq_t hc288) (by decide) (q := 298) (by decide) ?_
    exact w0_298 C A v16 v22 earliest_v24 latest_v24 beforeLatest_v24 F_earliest_v24 F_latest_v24 F_beforeLatest_v24 E_v24 g_v24
  · refine own_ifN C A at_288 (Jvm.Free.XT.i0_eq_f hc288) rfl ?_
    refine own_aload C A at_291 rfl rfl rfl ?_
    refine own_lload C A at_293 rfl rfl ?_
    refine own_callV C A 0 [(.long v6)] [] (own_w C 31 rfl) (own_w C 32 rfl) (own_w C 34 rfl) (own_w C 33 rfl) (own_w C 16 rfl) (own_w C 35 rfl) (by decide) rfl E_v24 (rm5 l Z a0 C.2.2.2.2.2.2.2.2 [] v24 v6 earliest_v24 latest_v24 beforeLatest_v24 _ _ (own_size A) F_earliest_v24 F_latest_v24 F_beforeLatest_v24 E_v24 g_v24) (by decide) (by decide) (by decide) (by decide) own_pd3 rfl rfl rfl (Nat.le_of_eq rfl) rfl at_295 rfl (fun v T h hP A => ?_)
    replace A := own_more A (kc' := 1) (ks' := 3) (by decide) (by decide)
    obtain ⟨rfl, Kc, E_v24, F_earliest_v24, F_latest_v24, F_beforeLatest_v24⟩ := hP
    show own_Go p.tables e below (T.setTop (mkF m 298 #[.val (.long u0), .second, .val (.long u2), .second, .val (.long u4), .second, .val (.long v6), .second, .val (.int u8), .val (.int u9), .val (.int u10), .val (.int u11), .val (.int u12), .val (.int v13), .val (.long u14), .second, .val (.long v16), .second, .val (.long u18), .second, .val (.long u20), .second, .val (.long v22), .second, .val (.ref v24)] [])) _
    exact w0_298 C A v16 v22 (f5_0 v6 earliest_v24 latest_v24 beforeLatest_v24).1 (f5_0 v6 earliest_v24 latest_v24 beforeLatest_v24).2.1 (f5_0 v6 earliest_v24 latest_v24 beforeLatest_v24).2.2 F_earliest_v24 F_latest_v24 F_beforeLatest_v24 E_v24 g_v24
def f0_274 (v4 : Int64) (v6 : Int64) (v12 : Int32) (v13 : Int32) (v16 : Int64) (v22 : Int64) (earliest_v24 : Int64) (latest_v24 : Int64) (beforeLatest_v24 : Int64) : Int32 := (if v12 = (0 : Int32) then (f0_286 v6 v13 v16 v22 earliest_v24 latest_v24 beforeLatest_v24) else (f0_286 v6 v13 v16 v22 (f5_0 v4 earliest_v24 latest_v24 beforeLatest_v24).1 (f5_0 v4 earliest_v24 latest_v24 beforeLatest_v24).2.1 (f5_0 v4 earliest_v24 latest_v24 beforeLatest_v24).2.2))
set_option maxRecDepth 65536 in
set_option maxHeartbeats 4000000 in
theorem w0_274 {Z : State} {a0 : Array Value} {p : Program} {l : Launch} {e : Env} {s : State} {m : MethodId} {args : Array Value} {below : List Frame} {meth : Method} {c : Code} {T : State} {h : Heap} {n0 : Nat} {u0 : Int64} {u2 : Int64} {u8 : Int32} {u9 : Int32} {u10 : Int32} {u11 : Int32} {u14 : Int64} {u18 : Int64} {u20 : Int64} {v24 : Addr} (C : own_Cx Z a0 p l e room_1 s m args below meth c "com/example/fit50/fit50/io/WindowAddPinLaw" "law" code maxLocals ret) (A : own_At p l e room_1 s m args below meth c T h n0 1 3) (v4 : Int64) (v6 : Int64) (v12 : Int32) (v13 : Int32) (v16 : Int64) (v22 : Int64) (earliest_v24 : Int64) (latest_v24 : Int64) (beforeLatest_v24 : Int64) (F_earliest_v24 : Fld Z h v24 "com/example/fit50/fit50/io/Window" "earliest" "J" (.long earliest_v24)) (F_latest_v24 : Fld Z h v24 "com/example/fit50/fit50/io/Window" "latest" "J" (.long latest_v24)) (F_beforeLatest_v24 : Fld Z h v24 "com/example/fit50/fit50/io/Window" "beforeLatest" "J" (.long beforeLatest_v24)) (E_v24 : Exa Z h v24 "com/example/fit50/fit50/io/Window") (g_v24 : n0 ≤ v24) :
    own_Go p.tables e below (T.setTop (mkF m 274 #[.val (.long u0), .second, .val (.long u2), .second, .val (.long v4), .second, .val (.long v6), .second, .val (.int u8), .val (.int u9), .val (.int u10), .val (.int u11), .val (.int v12), .val (.int v13), .val (.long u14), .second, .val (.long v16), .second, .val (.long u18), .second, .val (.long u20), .second, .val (.long v22), .second, .val (.ref v24)] [])) (own_QR s n0 1 3 (own_RV (f0_274 v4 v6 v12 v13 v16 v22 earliest_v24 latest_v24 beforeLatest_v24))) := by
  unfold f0_274
  refine own_iload C A at_274 rfl rfl ?_
  refine own_ite (fun hc276 => ?_) (fun hc276 => ?_)
  · refine own_ifY C A at_276 (Jvm.Free.XT.i0_eq_t hc276) (by decide) (q := 286) (by decide) ?_
    exact w0_286 C A v6 v13 v16 v22 earliest_v24 latest_v24 beforeLatest_v24 F_earliest_v24 F_latest_v24 F_beforeLatest_v24 E_v24 g_v24
  · refine own_ifN C A at_276 (Jvm.Free.XT.i0_eq_f hc276) rfl ?_
    refine own_aload C A at_279 rfl rfl rfl ?_
    refine own_lload C A at_281 rfl rfl ?_
    refine own_callV C A 0 [(.long v4)] [] (own_w C 31 rfl) (own_w C 32 rfl) (own_w C 34 rfl) (own_w C 33 rfl) (own_w C 16 rfl) (own_w C 35 rfl) (by decide) rfl E_v24 (rm5 l Z a0 C.2.2.2.2.2.2.2.2 [] v24 v4 earliest_v24 latest_v24 beforeLatest_v24 _ _ (own_size A) F_earliest_v24 F_latest_v24 F_beforeLatest_v24 E_v24 g_v24) (by decide) (by decide) (by decide) (by decide) own_pd3 rfl rfl rfl (Nat.le_of_eq rfl) rfl at_283 rfl (fun v T h hP A => ?_)
    replace A := own_more A (kc' := 1) (ks' := 3) (by decide) (by decide)
    obtain ⟨rfl, Kc, E_v24, F_earliest_v24, F_latest_v24, F_beforeLatest_v24⟩ := hP
    show own_Go p.tables e below (T.setTop (mkF m 286 #[.val (.long u0), .second, .val (.long u2), .second, .val (.long v4), .second, .val (.long v6), .second, .val (.int u8), .val (.int u9), .val (.int u10), .val (.int u11), .val (.int v12), .val (.int v13), .val (.long u14), .second, .val (.long v16), .second, .val (.long u18), .second, .val (.long u20), .second, .val (.long v22), .second, .val (.ref v24)] [])) _
    exact w0_286 C A v6 v13 v16 v22 (f5_0 v4 earliest_v24 latest_v24 beforeLatest_v24).1 (f5_0 v4 earliest_v24 latest_v24 beforeLatest_v24).2.1 (f5_0 v4 earliest_v24 latest_v24 beforeLatest_v24).2.2 F_earliest_v24 F_latest_v24 F_beforeLatest_v24 E_v24 g_v24
def f0_263 (v2 : Int64) (v4 : Int64) (v6 : Int64) (v11 : Int32) (v12 : Int32) (v13 : Int32) (v16 : Int64) (v22 : Int64) (earliest_v24 : Int64) (latest_v24 : Int64) (beforeLatest_v24 : Int64) : Int32 := (if v11 = (0 : Int32) then (f0_274 v4 v6 v12 v13 v16 v22 earliest_v24 latest_v24 beforeLatest_v24) else (f0_274 v4 v6 v12 v13 v16 v22 (f5_0 v2 earliest_v24 latest_v24 beforeLatest_v24).1 (f5_0 v2 earliest_v24 latest_v24 beforeLatest_v24).2.1 (f5_0 v2 earliest_v24 latest_v24 beforeLatest_v24).2.2))
set_option maxRecDepth 65536 in
set_option maxHeartbeats 4000000 in
theorem w0_263 {Z : State} {a0 : Array Value} {p : Program} {l : Launch} {e : Env} {s : State} {m : MethodId} {args : Array Value} {below : List Frame} {meth : Method} {c : Code} {T : State} {h : Heap} {n0 : Nat} {u0 : Int64} {u8 : Int32} {u9 : Int32} {u10 : Int32} {u14 : Int64} {u18 : Int64} {u20 : Int64} {v24 : Addr} (C : own_Cx Z a0 p l e room_1 s m args below meth c "com/example/fit50/fit50/io/WindowAddPinLaw" "law" code maxLocals ret) (A : own_At p l e room_1 s m args below meth c T h n0 1 3) (v2 : Int64) (v4 : Int64) (v6 : Int64) (v11 : Int32) (v12 : Int32) (v13 : Int32) (v16 : Int64) (v22 : Int64) (earliest_v24 : Int64) (latest_v24 : Int64) (beforeLatest_v24 : Int64) (F_earliest_v24 : Fld Z h v24 "com/example/fit50/fit50/io/Window" "earliest" "J" (.long earliest_v24)) (F_latest_v24 : Fld Z h v24 "com/example/fit50/fit50/io/Window" "latest" "J" (.long latest_v24)) (F_beforeLatest_v24 : Fld Z h v24 "com/example/fit50/fit50/io/Window" "beforeLatest" "J" (.long beforeLatest_v24)) (E_v24 : Exa Z h v24 "com/example/fit50/fit50/io/Window") (g_v24 : n0 ≤ v24) :
    own_Go p.tables e below (T.setTop (mkF m 263 #[.val (.long u0), .second, .val (.long v2), .second, .val (.long v4), .second, .val (.long v6), .second, .val (.int u8), .val (.int u9), .val (.int u10), .val (.int v11), .val (.int v12), .val (.int v13), .val (.long u14), .second, .val (.long v16), .second, .val (.long u18), .second, .val (.long u20), .second, .val (.long v22), .second, .val (.ref v24)] [])) (own_QR s n0 1 3 (own_RV (f0_263 v2 v4 v6 v11 v12 v13 v16 v22 earliest_v24 latest_v24 beforeLatest_v24))) := by
  unfold f0_263
  refine own_iload C A at_263 rfl rfl ?_
  refine own_ite (fun hc265 => ?_) (fun hc265 => ?_)
  · refine own_ifY C A at_265 (Jvm.Free.XT.i0_eq_t hc265) (by decide) (q := 274) (by decide) ?_
    exact w0_274 C A v4 v6 v12 v13 v16 v22 earliest_v24 latest_v24 beforeLatest_v24 F_earliest_v24 F_latest_v24 F_beforeLatest_v24 E_v24 g_v24
  · refine own_ifN C A at_265 (Jvm.Free.XT.i0_eq_f hc265) rfl ?_
    refine own_aload C A at_268 rfl rfl rfl ?_
    refine own_lloadN C A at_270 rfl rfl ?_
    refine own_callV C A 0 [(.long v2)] [] (own_w C 31 rfl) (own_w C 32 rfl) (own_w C 34 rfl) (own_w C 33 rfl) (own_w C 16 rfl) (own_w C 35 rfl) (by decide) rfl E_v24 (rm5 l Z a0 C.2.2.2.2.2.2.2.2 [] v24 v2 earliest_v24 latest_v24 beforeLatest_v24 _ _ (own_size A) F_earliest_v24 F_latest_v24 F_beforeLatest_v24 E_v24 g_v24) (by decide) (by decide) (by decide) (by decide) own_pd3 rfl rfl rfl (Nat.le_of_eq rfl) rfl at_271 rfl (fun v T h hP A => ?_)
    replace A := own_more A (kc' := 1) (ks' := 3) (by decide) (by decide)
    obtain ⟨rfl, Kc, E_v24, F_earliest_v24, F_latest_v24, F_beforeLatest_v24⟩ := hP
    show own_Go p.tables e below (T.setTop (mkF m 274 #[.val (.long u0), .second, .val (.long v2), .second, .val (.long v4), .second, .val (.long v6), .second, .val (.int u8), .val (.int u9), .val (.int u10), .val (.int v11), .val (.int v12), .val (.int v13), .val (.long u14), .second, .val (.long v16), .second, .val (.long u18), .second, .val (.long u20), .second, .val (.long v22), .second, .val (.ref v24)] [])) _
    exact w0_274 C A v4 v6 v12 v13 v16 v22 (f5_0 v2 earliest_v24 latest_v24 beforeLatest_v24).1 (f5_0 v2 earliest_v24 latest_v24 beforeLatest_v24).2.1 (f5_0 v2 earliest_v24 latest_v24 beforeLatest_v24).2.2 F_earliest_v24 F_latest_v24 F_beforeLatest_v24 E_v24 g_v24
def f0_231 (v0 : Int64) (v2 : Int64) (v4 : Int64) (v6 : Int64) (v10 : Int32) (v11 : Int32) (v12 : Int32) (v13 : Int32) (v14 : Int64) (v16 : Int64) (s0 : Int64) : Int32 := (if v10 = (0 : Int32) then (f0_263 v2 v4 v6 v11 v12 v13 v16 ((v14 - v16) + s0) (f4_0).1 (f4_0).2.1 (f4_0).2.2) else (f0_263 v2 v4 v6 v11 v12 v13 v16 ((v14 - v16) + s0) (f5_0 v0 (f4_0).1 (f4_0).2.1 (f4_0).2.2).1 (f5_0 v0 (f4_0).1 (f4_0).2.1 (f4_0).2.2).2.1 (f5_0 v0 (f4_0).1 (f4_0).2.1 (f4_0).2.2).2.2))
set_option maxRecDepth 65536 in
set_option maxHeartbeats 4000000 in
theorem w0_231 {Z : State} {a0 : Array Value} {p : Program} {l : Launch} {e : Env} {s : State} {m : MethodId} {args : Array Value} {below : List Frame} {meth : Method} {c : Code} {T : State} {h : Heap} {n0 : Nat} {u8 : Int32} {u9 : Int32} {u18 : Int64} (C : own_Cx Z a0 p l e room_1 s m args below meth c "com/example/fit50/fit50/io/WindowAddPinLaw" "law" code maxLocals ret) (A : own_At p l e room_1 s m args below meth c T h n0 0 0) (v0 : Int64) (v2 : Int64) (v4 : Int64) (v6 : Int64) (v10 : Int32) (v11 : Int32) (v12 : Int32) (v13 : Int32) (v14 : Int64) (v16 : Int64) (s0 : Int64) :
    own_Go p.tables e below (T.setTop (mkF m 231 #[.val (.long v0), .second, .val (.long v2), .second, .val (.long v4), .second, .val (.long v6), .second, .val (.int u8), .val (.int u9), .val (.int v10), .val (.int v11), .val (.int v12), .val (.int v13), .val (.long v14), .second, .val (.long v16), .second, .val (.long u18), .second, .unset, .unset, .unset, .unset, .unset] [(.long s0)])) (own_QR s n0 1 3 (own_RV (f0_231 v0 v2 v4 v6 v10 v11 v12 v13 v14 v16 s0))) := by
  unfold f0_231
  refine own_lstore C A at_231 (l' := #[.val (.long v0), .second, .val (.long v2), .second, .val (.long v4), .second, .val (.long v6), .second, .val (.int u8), .val (.int u9), .val (.int v10), .val (.int v11), .val (.int v12), .val (.int v13), .val (.long v14), .second, .val (.long v16), .second, .val (.long u18), .second, .val (.long s0), .second, .unset, .unset, .unset]) rfl rfl ?_
  refine own_lload C A at_233 rfl rfl ?_
  refine own_lload C A at_235 rfl rfl ?_
  refine own_lsub C A at_237 rfl ?_
  refine own_lload C A at_238 rfl rfl ?_
  refine own_ladd C A at_240 rfl ?_
  refine own_lstore C A at_241 (l' := #[.val (.long v0), .second, .val (.long v2), .second, .val (.long v4), .second, .val (.long v6), .second, .val (.int u8), .val (.int u9), .val (.int v10), .val (.int v11), .val (.int v12), .val (.int v13), .val (.long v14), .second, .val (.long v16), .second, .val (.long u18), .second, .val (.long s0), .second, .val (.long ((v14 - v16) + s0)), .second, .unset]) rfl rfl ?_
  refine own_newO C A (own_w C 14 rfl) (own_w C 15 rfl) (own_w C 16 rfl) at_243 rfl (by decide) (by decide) (fun T h b243 e_b243 X_b243 E_b243 D_b243 g_b243 A => ?_)
  have F_earliest_b243 : Fld Z h b243 "com/example/fit50/fit50/io/Window" "earliest" "J" (.long (0 : Int64)) := D_b243 (Or.inl (own_w C 25 rfl)) (ty := .long) (by decide)
  have F_latest_b243 : Fld Z h b243 "com/example/fit50/fit50/io/Window" "latest" "J" (.long (0 : Int64)) := D_b243 (Or.inl (own_w C 28 rfl)) (ty := .long) (by decide)
  have F_beforeLatest_b243 : Fld Z h b243 "com/example/fit50/fit50/io/Window" "beforeLatest" "J" (.long (0 : Int64)) := D_b243 (Or.inl (own_w C 30 rfl)) (ty := .long) (by decide)
  refine own_dup C A at_246 rfl rfl ?_
  refine own_callC C A 1 [] [(.ref b243)] rfl (own_w C 17 rfl) (own_w C 18 rfl) (own_w C 16 rfl) (own_w C 19 rfl) (by decide) (rm4 l Z a0 C.2.2.2.2.2.2.2.2 [] b243 (.long (0 : Int64)) (.long (0 : Int64)) (.long (0 : Int64)) _ _ (own_size A) F_earliest_b243 F_latest_b243 F_beforeLatest_b243 E_b243 g_b243) (by decide) (by decide) (by decide) (by decide) own_pd2 rfl rfl rfl (Nat.le_of_eq rfl) rfl at_247 rfl (fun v T h hP A => ?_)
  replace A := own_more A (kc' := 1) (ks' := 3) (by decide) (by decide)
  obtain ⟨rfl, Kc, E_b243, F_earliest_b243, F_latest_b243, F_beforeLatest_b243⟩ := hP
  show own_Go p.tables e below (T.setTop (mkF m 250 #[.val (.long v0), .second, .val (.long v2), .second, .val (.long v4), .second, .val (.long v6), .second, .val (.int u8), .val (.int u9), .val (.int v10), .val (.int v11), .val (.int v12), .val (.int v13), .val (.long v14), .second, .val (.long v16), .second, .val (.long u18), .second, .val (.long s0), .second, .val (.long ((v14 - v16) + s0)), .second, .unset] [(.ref b243)])) _
  refine own_astore C A at_250 rfl (l' := #[.val (.long v0), .second, .val (.long v2), .second, .val (.long v4), .second, .val (.long v6), .second, .val (.int u8), .val (.int u9), .val (.int v10), .val (.int v11), .val (.int v12), .val (.int v13), .val (.long v14), .second, .val (.long v16), .second, .val (.long u18), .second, .val (.long s0), .second, .val (.long ((v14 - v16) + s0)), .second, .val (.ref b243)]) rfl rfl ?_
  refine own_iload C A at_252 rfl rfl ?_
  refine own_ite (fun hc254 => ?_) (fun hc254 => ?_)
  · refine own_ifY C A at_254 (Jvm.Free.XT.i0_eq_t hc254) (by decide) (q := 263) (by decide) ?_
    exact w0_263 C A v2 v4 v6 v11 v12 v13 v16 ((v14 - v16) + s0) (f4_0).1 (f4_0).2.1 (f4_0).2.2 F_earliest_b243 F_latest_b243 F_beforeLatest_b243 E_b243 g_b243
  · refine own_ifN C A at_254 (Jvm.Free.XT.i0_eq_f hc254) rfl ?_
    refine own_aload C A at_257 rfl rfl rfl ?_
    refine own_lloadN C A at_259 rfl rfl ?_
    refine own_callV C A 0 [(.long v0)] [] (own_w C 31 rfl) (own_w C 32 rfl) (own_w C 34 rfl) (own_w C 33 rfl) (own_w C 16 rfl) (own_w C 35 rfl) (by decide) rfl E_b243 (rm5 l Z a0 C.2.2.2.2.2.2.2.2 [] b243 v0 (f4_0).1 (f4_0).2.1 (f4_0).2.2 _ _ (own_size A) F_earliest_b243 F_latest_b243 F_beforeLatest_b243 E_b243 g_b243) (by decide) (by decide) (by decide) (by decide) own_pd3 rfl rfl rfl (Nat.le_of_eq rfl) rfl at_260 rfl (fun v T h hP A => ?_)
    replace A := own_more A (kc' := 1) (ks' := 3) (by decide) (by decide)
    obtain ⟨rfl, Kc, E_b243, F_earliest_b243, F_latest_b243, F_beforeLatest_b243⟩ := hP
    show own_Go p.tables e below (T.setTop (mkF m 263 #[.val (.long v0), .second, .val (.long v2), .second, .val (.long v4), .second, .val (.long v6), .second, .val (.int u8), .val (.int u9), .val (.int v10), .val (.int v11), .val (.int v12), .val (.int v13), .val (.long v14), .second, .val (.long v16), .second, .val (.long u18), .second, .val (.long s0), .second, .val (.long ((v14 - v16) + s0)), .second, .val (.ref b243)] [])) _
    exact w0_263 C A v2 v4 v6 v11 v12 v13 v16 ((v14 - v16) + s0) (f5_0 v0 (f4_0).1 (f4_0).2.1 (f4_0).2.2).1 (f5_0 v0 (f4_0).1 (f4_0).2.1 (f4_0).2.2).2.1 (f5_0 v0 (f4_0).1 (f4_0).2.1 (f4_0).2.2).2.2 F_earliest_b243 F_latest_b243 F_beforeLatest_b243 E_b243 g_b243
def f0_158 (v0 : Int64) (v2 : Int64) (v4 : Int64) (v6 : Int64) (v10 : Int32) (v11 : Int32) (v12 : Int32) (v13 : Int32) (v14 : Int64) (v16 : Int64) : Int32 := (if (f3_0 (f3_0 (f3_0 (f3_0 (-9223372036854775808 : Int64) v10 v0 v14) v11 v2 v14) v12 v4 v14) v13 v6 v14) = (-9223372036854775808 : Int64) then (f0_231 v0 v2 v4 v6 v10 v11 v12 v13 v14 v16 (1 : Int64)) else (f0_231 v0 v2 v4 v6 v10 v11 v12 v13 v14 v16 (v14 - (f3_0 (f3_0 (f3_0 (f3_0 (-9223372036854775808 : Int64) v10 v0 v14) v11 v2 v14) v12 v4 v14) v13 v6 v14))))
set_option maxRecDepth 65536 in
set_option maxHeartbeats 4000000 in
theorem w0_158 {Z : State} {a0 : Array Value} {p : Program} {l : Launch} {e : Env} {s : State} {m : MethodId} {args : Array Value} {below : List Frame} {meth : Method} {c : Code} {T : State} {h : Heap} {n0 : Nat} {u8 : Int32} {u9 : Int32} (C : own_Cx Z a0 p l e room_1 s m args below meth c "com/example/fit50/fit50/io/WindowAddPinLaw" "law" code maxLocals ret) (A : own_At p l e room_1 s m args below meth c T h n0 0 0) (v0 : Int64) (v2 : Int64) (v4 : Int64) (v6 : Int64) (v10 : Int32) (v11 : Int32) (v12 : Int32) (v13 : Int32) (v14 : Int64) (v16 : Int64) :
    own_Go p.tables e below (T.setTop (mkF m 158 #[.val (.long v0), .second, .val (.long v2), .second, .val (.long v4), .second, .val (.long v6), .second, .val (.int u8), .val (.int u9), .val (.int v10), .val (.int v11), .val (.int v12), .val (.int v13), .val (.long v14), .second, .val (.long v16), .second, .unset, .unset, .unset, .unset, .unset, .unset, .unset] [])) (own_QR s n0 1 3 (own_RV (f0_158 v0 v2 v4 v6 v10 v11 v12 v13 v14 v16))) := by
  unfold f0_158
  refine own_ldcJ C A (own_w C 1 rfl) at_158 rfl ?_
  refine own_lstore C A at_161 (l' := #[.val (.long v0), .second, .val (.long v2), .second, .val (.long v4), .second, .val (.long v6), .second, .val (.int u8), .val (.int u9), .val (.int v10), .val (.int v11), .val (.int v12), .val (.int v13), .val (.long v14), .second, .val (.long v16), .second, .val (.long (-9223372036854775808 : Int64)), .second, .unset, .unset, .unset, .unset, .unset]) rfl rfl ?_
  refine own_lload C A at_163 rfl rfl ?_
  refine own_iload C A at_165 rfl rfl ?_
  refine own_lloadN C A at_167 rfl rfl ?_
  refine own_lload C A at_168 rfl rfl ?_
  refine own_callSJ C A 0 [(.long (-9223372036854775808 : Int64)), (.int v10), (.long v0), (.long v14)] [] (own_w C 10 rfl) (own_w C 11 rfl) (own_w C 12 rfl) (own_w C 13 rfl) (by decide) (rm3 l Z a0 C.2.2.2.2.2.2.2.2 [] (-9223372036854775808 : Int64) v10 v0 v14 _ _ (own_size A)) rfl rfl (by decide) (by decide) (by decide) (by decide) own_pd1 rfl rfl rfl (Nat.le_of_eq rfl) rfl at_170 rfl (fun T A => ?_)
  refine own_lstore C A at_173 (l' := #[.val (.long v0), .second, .val (.long v2), .second, .val (.long v4), .second, .val (.long v6), .second, .val (.int u8), .val (.int u9), .val (.int v10), .val (.int v11), .val (.int v12), .val (.int v13), .val (.long v14), .second, .val (.long v16), .second, .val (.long (f3_0 (-9223372036854775808 : Int64) v10 v0 v14)), .second, .unset, .unset, .unset, .unset, .unset]) rfl rfl ?_
  refine own_lload C A at_175 rfl rfl ?_
  refine own_iload C A at_177 rfl rfl ?_
  refine own_lloadN C A at_179 rfl rfl ?_
  refine own_lload C A at_180 rfl rfl ?_
  refine own_callSJ C A 0 [(.long (f3_0 (-9223372036854775808 : Int64) v10 v0 v14)), (.int v11), (.long v2), (.long v14)] [] (own_w C 10 rfl) (own_w C 11 rfl) (own_w C 12 rfl) (own_w C 13 rfl) (by decide) (rm3 l Z a0 C.2.2.2.2.2.2.2.2 [] (f3_0 (-9223372036854775808 : Int64) v10 v0 v14) v11 v2 v14 _ _ (own_size A)) rfl rfl (by decide) (by decide) (by decide) (by decide) own_pd1 rfl rfl rfl (Nat.le_of_eq rfl) rfl at_182 rfl (fun T A => ?_)
  refine own_lstore C A at_185 (l' := #[.val (.long v0), .second, .val (.long v2), .second, .val (.long v4), .second, .val (.long v6), .second, .val (.int u8), .val (.int u9), .val (.int v10), .val (.int v11), .val (.int v12), .val (.int v13), .val (.long v14), .second, .val (.long v16), .second, .val (.long (f3_0 (f3_0 (-9223372036854775808 : Int64) v10 v0 v14) v11 v2 v14)), .second, .unset, .unset, .unset, .unset, .unset]) rfl rfl ?_
  refine own_lload C A at_187 rfl rfl ?_
  refine own_iload C A at_189 rfl rfl ?_
  refine own_lload C A at_191 rfl rfl ?_
  refine own_lload C A at_193 rfl rfl ?_
  refine own_callSJ C A 0 [(.long (f3_0 (f3_0 (-9223372036854775808 : Int64) v10 v0 v14) v11 v2 v14)), (.int v12), (.long v4), (.long v14)] [] (own_w C 10 rfl) (own_w C 11 rfl) (own_w C 12 rfl) (own_w C 13 rfl) (by decide) (rm3 l Z a0 C.2.2.2.2.2.2.2.2 [] (f3_0 (f3_0 (-9223372036854775808 : Int64) v10 v0 v14) v11 v2 v14) v12 v4 v14 _ _ (own_size A)) rfl rfl (by decide) (by decide) (by decide) (by decide) own_pd1 rfl rfl rfl (Nat.le_of_eq rfl) rfl at_195 rfl (fun T A => ?_)
  refine own_lstore C A at_198 (l' := #[.val (.long v0), .second, .val (.long v2), .second, .val (.long v4), .second, .val (.long v6), .second, .val (.int u8), .val (.int u9), .val (.int v10), .val (.int v11), .val (.int v12), .val (.int v13), .val (.long v14), .second, .val (.long v16), .second, .val (.long (f3_0 (f3_0 (f3_0 (-9223372036854775808 : Int64) v10 v0 v14) v11 v2 v14) v12 v4 v14)), .second, .unset, .unset, .unset, .unset, .unset]) rfl rfl ?_
  refine own_lload C A at_200 rfl rfl ?_
  refine own_iload C A at_202 rfl rfl ?_
  refine own_lload C A at_204 rfl rfl ?_
  refine own_lload C A at_206 rfl rfl ?_
  refine own_callSJ C A 0 [(.long (f3_0 (f3_0 (f3_0 (-9223372036854775808 : Int64) v10 v0 v14) v11 v2 v14) v12 v4 v14)), (.int v13), (.long v6), (.long v14)] [] (own_w C 10 rfl) (own_w C 11 rfl) (own_w C 12 rfl) (own_w C 13 rfl) (by decide) (rm3 l Z a0 C.2.2.2.2.2.2.2.2 [] (f3_0 (f3_0 (f3_0 (-9223372036854775808 : Int64) v10 v0 v14) v11 v2 v14) v12 v4 v14) v13 v6 v14 _ _ (own_size A)) rfl rfl (by decide) (by decide) (by decide) (by decide) own_pd1 rfl rfl rfl (Nat.le_of_eq rfl) rfl at_208 rfl (fun T A => ?_)
  refine own_lstore C A at_211 (l' := #[.val (.long v0), .second, .val (.long v2), .second, .val (.long v4), .second, .val (.long v6), .second, .val (.int u8), .val (.int u9), .val (.int v10), .val (.int v11), .val (.int v12), .val (.int v13), .val (.long v14), .second, .val (.long v16), .second, .val (.long (f3_0 (f3_0 (f3_0 (f3_0 (-9223372036854775808 : Int64) v10 v0 v14) v11 v2 v14) v12 v4 v14) v13 v6 v14)), .second, .unset, .unset, .unset, .unset, .unset]) rfl rfl ?_
  refine own_lload C A at_213 rfl rfl ?_
  refine own_ldcJ C A (own_w C 1 rfl) at_215 rfl ?_
  refine own_lcmp C A at_218 rfl ?_
  refine own_ite (fun hc219 => ?_) (fun hc219 => ?_)
  · refine own_ifN C A at_219 (Jvm.Free.XT.ll_ne_f hc219) rfl ?_
    refine own_lconst C A at_222 (v := 1) rfl rfl ?_
    refine own_goto C A at_223 (by decide) (q := 231) (by decide) ?_
    exact w0_231 C A v0 v2 v4 v6 v10 v11 v12 v13 v14 v16 (1 : Int64)
  · refine own_ifY C A at_219 (Jvm.Free.XT.ll_ne_t hc219) (by decide) (q := 226) (by decide) ?_
    refine own_lload C A at_226 rfl rfl ?_
    refine own_lload C A at_228 rfl rfl ?_
    refine own_lsub C A at_230 rfl ?_
    exact w0_231 C A v0 v2 v4 v6 v10 v11 v12 v13 v14 v16 (v14 - (f3_0 (f3_0 (f3_0 (f3_0 (-9223372036854775808 : Int64) v10 v0 v14) v11 v2 v14) v12 v4 v14) v13 v6 v14))
def f0_135 (v0 : Int64) (v2 : Int64) (v4 : Int64) (v6 : Int64) (v10 : Int32) (v11 : Int32) (v12 : Int32) (v13 : Int32) (v14 : Int64) (v16 : Int64) : Int32 := (if v13 = (0 : Int32) then (f0_158 v0 v2 v4 v6 v10 v11 v12 v13 v14 v16) else (f0_158 v0 v2 v4 v6 v10 v11 v12 v13 (f2_0 v14 v6) (f1_0 v16 v6)))
set_option maxRecDepth 65536 in
set_option maxHeartbeats 4000000 in
theorem w0_135 {Z : State} {a0 : Array Value} {p : Program} {l : Launch} {e : Env} {s : State} {m : MethodId} {args : Array Value} {below : List Frame} {meth : Method} {c : Code} {T : State} {h : Heap} {n0 : Nat} {u8 : Int32} {u9 : Int32} (C : own_Cx Z a0 p l e room_1 s m args below meth c "com/example/fit50/fit50/io/WindowAddPinLaw" "law" code maxLocals ret) (A : own_At p l e room_1 s m args below meth c T h n0 0 0) (v0 : Int64) (v2 : Int64) (v4 : Int64) (v6 : Int64) (v10 : Int32) (v11 : Int32) (v12 : Int32) (v13 : Int32) (v14 : Int64) (v16 : Int64) :
    own_Go p.tables e below (T.setTop (mkF m 135 #[.val (.long v0), .second, .val (.long v2), .second, .val (.long v4), .second, .val (.long v6), .second, .val (.int u8), .val (.int u9), .val (.int v10), .val (.int v11), .val (.int v12), .val (.int v13), .val (.long v14), .second, .val (.long v16), .second, .unset, .unset, .unset, .unset, .unset, .unset, .unset] [])) (own_QR s n0 1 3 (own_RV (f0_135 v0 v2 v4 v6 v10 v11 v12 v13 v14 v16))) := by
  unfold f0_135
  refine own_iload C A at_135 rfl rfl ?_
  refine own_ite (fun hc137 => ?_) (fun hc137 => ?_)
  · refine own_ifY C A at_137 (Jvm.Free.XT.i0_eq_t hc137) (by decide) (q := 158) (by decide) ?_
    exact w0_158 C A v0 v2 v4 v6 v10 v11 v12 v13 v14 v16
  · refine own_ifN C A at_137 (Jvm.Free.XT.i0_eq_f hc137) rfl ?_
    refine own_lload C A at_140 rfl rfl ?_
    refine own_lload C A at_142 rfl rfl ?_
    refine own_callSJ C A 0 [(.long v14), (.long v6)] [] (own_w C 3 rfl) (own_w C 4 rfl) (own_w C 5 rfl) (own_w C 6 rfl) (by decide) (rm2 l Z a0 C.2.2.2.2.2.2.2.2 [] v14 v6 _ _ (own_size A)) rfl rfl (by decide) (by decide) (by decide) (by decide) own_pd0 rfl rfl rfl (Nat.le_of_eq rfl) rfl at_144 rfl (fun T A => ?_)
    refine own_lstore C A at_147 (l' := #[.val (.long v0), .second, .val (.long v2), .second, .val (.long v4), .second, .val (.long v6), .second, .val (.int u8), .val (.int u9), .val (.int v10), .val (.int v11), .val (.int v12), .val (.int v13), .val (.long (f2_0 v14 v6)), .second, .val (.long v16), .second, .unset, .unset, .unset, .unset, .unset, .unset, .unset]) rfl rfl ?_
    refine own_lload C A at_149 rfl rfl ?_
    refine own_lload C A at_151 rfl rfl ?_
    refine own_callSJ C A 0 [(.long v16), (.long v6)] [] (own_w C 7 rfl) (own_w C 8 rfl) (own_w C 5 rfl) (own_w C 9 rfl) (by decide) (rm1 l Z a0 C.2.2.2.2.2.2.2.2 [] v16 v6 _ _ (own_size A)) rfl rfl (by decide) (by decide) (by decide) (by decide) own_pd0 rfl rfl rfl (Nat.le_of_eq rfl) rfl at_153 rfl (fun T A => ?_)
    refine own_lstore C A at_156 (l' := #[.val (.long v0), .second, .val (.long v2), .second, .val (.long v4), .second, .val (.long v6), .second, .val (.int u8), .val (.int u9), .val (.int v10), .val (.int v11), .val (.int v12), .val (.int v13), .val (.long (f2_0 v14 v6)), .second, .val (.long (f1_0 v16 v6)), .second, .unset, .unset, .unset, .unset, .unset, .unset, .unset]) rfl rfl ?_
    exact w0_158 C A v0 v2 v4 v6 v10 v11 v12 v13 (f2_0 v14 v6) (f1_0 v16 v6)
def f0_112 (v0 : Int64) (v2 : Int64) (v4 : Int64) (v6 : Int64) (v10 : Int32) (v11 : Int32) (v12 : Int32) (v13 : Int32) (v14 : Int64) (v16 : Int64) : Int32 := (if v12 = (0 : Int32) then (f0_135 v0 v2 v4 v6 v10 v11 v12 v13 v14 v16) else (f0_135 v0 v2 v4 v6 v10 v11 v12 v13 (f2_0 v14 v4) (f1_0 v16 v4)))
set_option maxRecDepth 65536 in
set_option maxHeartbeats 4000000 in
theorem w0_112 {Z : State} {a0 : Array Value} {p : Program} {l : Launch} {e : Env} {s : State} {m : MethodId} {args : Array Value} {below : List Frame} {meth : Method} {c : Code} {T : State} {h : Heap} {n0 : Nat} {u8 : Int32} {u9 : Int32} (C : own_Cx Z a0 p l e room_1 s m args below meth c "com/example/fit50/fit50/io/WindowAddPinLaw" "law" code maxLocals ret) (A : own_At p l e room_1 s m args below meth c T h n0 0 0) (v0 : Int64) (v2 : Int64) (v4 : Int64) (v6 : Int64) (v10 : Int32) (v11 : Int32) (v12 : Int32) (v13 : Int32) (v14 : Int64) (v16 : Int64) :
    own_Go p.tables e below (T.setTop (mkF m 112 #[.val (.long v0), .second, .val (.long v2), .second, .val (.long v4), .second, .val (.long v6), .second, .val (.int u8), .val (.int u9), .val (.int v10), .val (.int v11), .val (.int v12), .val (.int v13), .val (.long v14), .second, .val (.long v16), .second, .unset, .unset, .unset, .unset, .unset, .unset, .unset] [])) (own_QR s n0 1 3 (own_RV (f0_112 v0 v2 v4 v6 v10 v11 v12 v13 v14 v16))) := by
  unfold f0_112
  refine own_iload C A at_112 rfl rfl ?_
  refine own_ite (fun hc114 => ?_) (fun hc114 => ?_)
  · refine own_ifY C A at_114 (Jvm.Free.XT.i0_eq_t hc114) (by decide) (q := 135) (by decide) ?_
    exact w0_135 C A v0 v2 v4 v6 v10 v11 v12 v13 v14 v16
  · refine own_ifN C A at_114 (Jvm.Free.XT.i0_eq_f hc114) rfl ?_
    refine own_lload C A at_117 rfl rfl ?_
    refine own_lload C A at_119 rfl rfl ?_
    refine own_callSJ C A 0 [(.long v14), (.long v4)] [] (own_w C 3 rfl) (own_w C 4 rfl) (own_w C 5 rfl) (own_w C 6 rfl) (by decide) (rm2 l Z a0 C.2.2.2.2.2.2.2.2 [] v14 v4 _ _ (own_size A)) rfl rfl (by decide) (by decide) (by decide) (by decide) own_pd0 rfl rfl rfl (Nat.le_of_eq rfl) rfl at_121 rfl (fun T A => ?_)
    refine own_lstore C A at_124 (l' := #[.val (.long v0), .second, .val (.long v2), .second, .val (.long v4), .second, .val (.long v6), .second, .val (.int u8), .val (.int u9), .val (.int v10), .val (.int v11), .val (.int v12), .val (.int v13), .val (.long (f2_0 v14 v4)), .second, .val (.long v16), .second, .unset, .unset, .unset, .unset, .unset, .unset, .unset]) rfl rfl ?_
    refine own_lload C A at_126 rfl rfl ?_
    refine own_lload C A at_128 rfl rfl ?_
    refine own_callSJ C A 0 [(.long v16), (.long v4)] [] (own_w C 7 rfl) (own_w C 8 rfl) (own_w C 5 rfl) (own_w C 9 rfl) (by decide) (rm1 l Z a0 C.2.2.2.2.2.2.2.2 [] v16 v4 _ _ (own_size A)) rfl rfl (by decide) (by decide) (by decide) (by decide) own_pd0 rfl rfl rfl (Nat.le_of_eq rfl) rfl at_130 rfl (fun T A => ?_)
    refine own_lstore C A at_133 (l' := #[.val (.long v0), .second, .val (.long v2), .second, .val (.long v4), .second, .val (.long v6), .second, .val (.int u8), .val (.int u9), .val (.int v10), .val (.int v11), .val (.int v12), .val (.int v13), .val (.long (f2_0 v14 v4)), .second, .val (.long (f1_0 v16 v4)), .second, .unset, .unset, .unset, .unset, .unset, .unset, .unset]) rfl rfl ?_
    exact w0_135 C A v0 v2 v4 v6 v10 v11 v12 v13 (f2_0 v14 v4) (f1_0 v16 v4)
def f0_91 (v0 : Int64) (v2 : Int64) (v4 : Int64) (v6 : Int64) (v10 : Int32) (v11 : Int32) (v12 : Int32) (v13 : Int32) (v14 : Int64) (v16 : Int64) : Int32 := (if v11 = (0 : Int32) then (f0_112 v0 v2 v4 v6 v10 v11 v12 v13 v14 v16) else (f0_112 v0 v2 v4 v6 v10 v11 v12 v13 (f2_0 v14 v2) (f1_0 v16 v2)))
set_option maxRecDepth 65536 in
set_option maxHeartbeats 4000000 in
theorem w0_91 {Z : State} {a0 : Array Value} {p : Program} {l : Launch} {e : Env} {s : State} {m : MethodId} {args : Array Value} {below : List Frame} {meth : Method} {c : Code} {T : State} {h : Heap} {n0 : Nat} {u8 : Int32} {u9 : Int32} (C : own_Cx Z a0 p l e room_1 s m args below meth c "com/example/fit50/fit50/io/WindowAddPinLaw" "law" code maxLocals ret) (A : own_At p l e room_1 s m args below meth c T h n0 0 0) (v0 : Int64) (v2 : Int64) (v4 : Int64) (v6 : Int64) (v10 : Int32) (v11 : Int32) (v12 : Int32) (v13 : Int32) (v14 : Int64) (v16 : Int64) :
    own_Go p.tables e below (T.setTop (mkF m 91 #[.val (.long v0), .second, .val (.long v2), .second, .val (.long v4), .second, .val (.long v6), .second, .val (.int u8), .val (.int u9), .val (.int v10), .val (.int v11), .val (.int v12), .val (.int v13), .val (.long v14), .second, .val (.long v16), .second, .unset, .unset, .unset, .unset, .unset, .unset, .unset] [])) (own_QR s n0 1 3 (own_RV (f0_91 v0 v2 v4 v6 v10 v11 v12 v13 v14 v16))) := by
  unfold f0_91
  refine own_iload C A at_91 rfl rfl ?_
  refine own_ite (fun hc93 => ?_) (fun hc93 => ?_)
  · refine own_ifY C A at_93 (Jvm.Free.XT.i0_eq_t hc93) (by decide) (q := 112) (by decide) ?_
    exact w0_112 C A v0 v2 v4 v6 v10 v11 v12 v13 v14 v16
  · refine own_ifN C A at_93 (Jvm.Free.XT.i0_eq_f hc93) rfl ?_
    refine own_lload C A at_96 rfl rfl ?_
    refine own_lloadN C A at_98 rfl rfl ?_
    refine own_callSJ C A 0 [(.long v14), (.long v2)] [] (own_w C 3 rfl) (own_w C 4 rfl) (own_w C 5 rfl) (own_w C 6 rfl) (by decide) (rm2 l Z a0 C.2.2.2.2.2.2.2.2 [] v14 v2 _ _ (own_size A)) rfl rfl (by decide) (by decide) (by decide) (by decide) own_pd0 rfl rfl rfl (Nat.le_of_eq rfl) rfl at_99 rfl (fun T A => ?_)
    refine own_lstore C A at_102 (l' := #[.val (.long v0), .second, .val (.long v2), .second, .val (.long v4), .second, .val (.long v6), .second, .val (.int u8), .val (.int u9), .val (.int v10), .val (.int v11), .val (.int v12), .val (.int v13), .val (.long (f2_0 v14 v2)), .second, .val (.long v16), .second, .unset, .unset, .unset, .unset, .unset, .unset, .unset]) rfl rfl ?_
    refine own_lload C A at_104 rfl rfl ?_
    refine own_lloadN C A at_106 rfl rfl ?_
    refine own_callSJ C A 0 [(.long v16), (.long v2)] [] (own_w C 7 rfl) (own_w C 8 rfl) (own_w C 5 rfl) (own_w C 9 rfl) (by decide) (rm1 l Z a0 C.2.2.2.2.2.2.2.2 [] v16 v2 _ _ (own_size A)) rfl rfl (by decide) (by decide) (by decide) (by decide) own_pd0 rfl rfl rfl (Nat.le_of_eq rfl) rfl at_107 rfl (fun T A => ?_)
    refine own_lstore C A at_110 (l' := #[.val (.long v0), .second, .val (.long v2), .second, .val (.long v4), .second, .val (.long v6), .second, .val (.int u8), .val (.int u9), .val (.int v10), .val (.int v11), .val (.int v12), .val (.int v13), .val (.long (f2_0 v14 v2)), .second, .val (.long (f1_0 v16 v2)), .second, .unset, .unset, .unset, .unset, .unset, .unset, .unset]) rfl rfl ?_
    exact w0_112 C A v0 v2 v4 v6 v10 v11 v12 v13 (f2_0 v14 v2) (f1_0 v16 v2)
def f0_58 (v0 : Int64) (v2 : Int64) (v4 : Int64) (v6 : Int64) (v10 : Int32) (v11 : Int32) (v12 : Int32) (s0 : Int32) : Int32 := (if v10 = (0 : Int32) then (f0_91 v0 v2 v4 v6 v10 v11 v12 s0 (-9223372036854775808 : Int64) (9223372036854775807 : Int64)) else (f0_91 v0 v2 v4 v6 v10 v11 v12 s0 (f2_0 (-9223372036854775808 : Int64) v0) (f1_0 (9223372036854775807 : Int64) v0)))
set_option maxRecDepth 65536 in
set_option maxHeartbeats 4000000 in
theorem w0_58 {Z : State} {a0 : Array Value} {p : Program} {l : Launch} {e : Env} {s : State} {m : MethodId} {args : Array Value} {below : List Frame} {meth : Method} {c : Code} {T : State} {h : Heap} {n0 : Nat} {u8 : Int32} {u9 : Int32} (C : own_Cx Z a0 p l e room_1 s m args below meth c "com/example/fit50/fit50/io/WindowAddPinLaw" "law" code maxLocals ret) (A : own_At p l e room_1 s m args below meth c T h n0 0 0) (v0 : Int64) (v2 : Int64) (v4 : Int64) (v6 : Int64) (v10 : Int32) (v11 : Int32) (v12 : Int32) (s0 : Int32) :
    own_Go p.tables e below (T.setTop (mkF m 58 #[.val (.long v0), .second, .val (.long v2), .second, .val (.long v4), .second, .val (.long v6), .second, .val (.int u8), .val (.int u9), .val (.int v10), .val (.int v11), .val (.int v12), .unset, .unset, .unset, .unset, .unset, .unset, .unset, .unset, .unset, .unset, .unset, .unset] [(.int s0)])) (own_QR s n0 1 3 (own_RV (f0_58 v0 v2 v4 v6 v10 v11 v12 s0))) := by
  unfold f0_58
  refine own_istore C A at_58 (l' := #[.val (.long v0), .second, .val (.long v2), .second, .val (.long v4), .second, .val (.long v6), .second, .val (.int u8), .val (.int u9), .val (.int v10), .val (.int v11), .val (.int v12), .val (.int s0), .unset, .unset, .unset, .unset, .unset, .unset, .unset, .unset, .unset, .unset, .unset]) rfl rfl ?_
  refine own_ldcJ C A (own_w C 1 rfl) at_60 rfl ?_
  refine own_lstore C A at_63 (l' := #[.val (.long v0), .second, .val (.long v2), .second, .val (.long v4), .second, .val (.long v6), .second, .val (.int u8), .val (.int u9), .val (.int v10), .val (.int v11), .val (.int v12), .val (.int s0), .val (.long (-9223372036854775808 : Int64)), .second, .unset, .unset, .unset, .unset, .unset, .unset, .unset, .unset, .unset]) rfl rfl ?_
  refine own_ldcJ C A (own_w C 2 rfl) at_65 rfl ?_
  refine own_lstore C A at_68 (l' := #[.val (.long v0), .second, .val (.long v2), .second, .val (.long v4), .second, .val (.long v6), .second, .val (.int u8), .val (.int u9), .val (.int v10), .val (.int v11), .val (.int v12), .val (.int s0), .val (.long (-9223372036854775808 : Int64)), .second, .val (.long (9223372036854775807 : Int64)), .second, .unset, .unset, .unset, .unset, .unset, .unset, .unset]) rfl rfl ?_
  refine own_iload C A at_70 rfl rfl ?_
  refine own_ite (fun hc72 => ?_) (fun hc72 => ?_)
  · refine own_ifY C A at_72 (Jvm.Free.XT.i0_eq_t hc72) (by decide) (q := 91) (by decide) ?_
    exact w0_91 C A v0 v2 v4 v6 v10 v11 v12 s0 (-9223372036854775808 : Int64) (9223372036854775807 : Int64)
  · refine own_ifN C A at_72 (Jvm.Free.XT.i0_eq_f hc72) rfl ?_
    refine own_lload C A at_75 rfl rfl ?_
    refine own_lloadN C A at_77 rfl rfl ?_
    refine own_callSJ C A 0 [(.long (-9223372036854775808 : Int64)), (.long v0)] [] (own_w C 3 rfl) (own_w C 4 rfl) (own_w C 5 rfl) (own_w C 6 rfl) (by decide) (rm2 l Z a0 C.2.2.2.2.2.2.2.2 [] (-9223372036854775808 : Int64) v0 _ _ (own_size A)) rfl rfl (by decide) (by decide) (by decide) (by decide) own_pd0 rfl rfl rfl (Nat.le_of_eq rfl) rfl at_78 rfl (fun T A => ?_)
    refine own_lstore C A at_81 (l' := #[.val (.long v0), .second, .val (.long v2), .second, .val (.long v4), .second, .val (.long v6), .second, .val (.int u8), .val (.int u9), .val (.int v10), .val (.int v11), .val (.int v12), .val (.int s0), .val (.long (f2_0 (-9223372036854775808 : Int64) v0)), .second, .val (.long (9223372036854775807 : Int64)), .second, .unset, .unset, .unset, .unset, .unset, .unset, .unset]) rfl rfl ?_
    refine own_lload C A at_83 rfl rfl ?_
    refine own_lloadN C A at_85 rfl rfl ?_
    refine own_callSJ C A 0 [(.long (9223372036854775807 : Int64)), (.long v0)] [] (own_w C 7 rfl) (own_w C 8 rfl) (own_w C 5 rfl) (own_w C 9 rfl) (by decide) (rm1 l Z a0 C.2.2.2.2.2.2.2.2 [] (9223372036854775807 : Int64) v0 _ _ (own_size A)) rfl rfl (by decide) (by decide) (by decide) (by decide) own_pd0 rfl rfl rfl (Nat.le_of_eq rfl) rfl at_86 rfl (fun T A => ?_)
    refine own_lstore C A at_89 (l' := #[.val (.long v0), .second, .val (.long v2), .second, .val (.long v4), .second, .val (.long v6), .second, .val (.int u8), .val (.int u9), .val (.int v10), .val (.int v11), .val (.int v12), .val (.int s0), .val (.long (f2_0 (-9223372036854775808 : Int64) v0)), .second, .val (.long (f1_0 (9223372036854775807 : Int64) v0)), .second, .unset, .unset, .unset, .unset, .unset, .unset, .unset]) rfl rfl ?_
    exact w0_91 C A v0 v2 v4 v6 v10 v11 v12 s0 (f2_0 (-9223372036854775808 : Int64) v0) (f1_0 (9223372036854775807 : Int64) v0)
def f0_45 (v0 : Int64) (v2 : Int64) (v4 : Int64) (v6 : Int64) (v9 : Int32) (v10 : Int32) (v11 : Int32) (s0 : Int32) : Int32 := (if (3 : Int32) < v9 then (f0_58 v0 v2 v4 v6 v10 v11 s0 (1 : Int32)) else (f0_58 v0 v2 v4 v6 v10 v11 s0 (0 : Int32)))
set_option maxRecDepth 65536 in
set_option maxHeartbeats 4000000 in
theorem w0_45 {Z : State} {a0 : Array Value} {p : Program} {l : Launch} {e : Env} {s : State} {m : MethodId} {args : Array Value} {below : List Frame} {meth : Method} {c : Code} {T : State} {h : Heap} {n0 : Nat} {u8 : Int32} (C : own_Cx Z a0 p l e room_1 s m args below meth c "com/example/fit50/fit50/io/WindowAddPinLaw" "law" code maxLocals ret) (A : own_At p l e room_1 s m args below meth c T h n0 0 0) (v0 : Int64) (v2 : Int64) (v4 : Int64) (v6 : Int64) (v9 : Int32) (v10 : Int32) (v11 : Int32) (s0 : Int32) :
    own_Go p.tables e below (T.setTop (mkF m 45 #[.val (.long v0), .second, .val (.long v2), .second, .val (.long v4), .second, .val (.long v6), .second, .val (.int u8), .val (.int v9), .val (.int v10), .val (.int v11), .unset, .unset, .unset, .unset, .unset, .unset, .unset, .unset, .unset, .unset, .unset, .unset, .unset] [(.int s0)])) (own_QR s n0 1 3 (own_RV (f0_45 v0 v2 v4 v6 v9 v10 v11 s0))) := by
  unfold f0_45
  refine own_istore C A at_45 (l' := #[.val (.long v0), .second, .val (.long v2), .second, .val (.long v4), .second, .val (.long v6), .second, .val (.int u8), .val (.int v9), .val (.int v10), .val (.int v11), .val (.int s0), .unset, .unset, .unset, .unset, .unset, .unset, .unset, .unset, .unset, .unset, .unset, .unset]) rfl rfl ?_
  refine own_iload C A at_47 rfl rfl ?_
  refine own_iconst C A at_49 (v := 3) rfl rfl ?_
  refine own_ite (fun hc50 => ?_) (fun hc50 => ?_)
  · refine own_icmpN C A at_50 (Jvm.Free.XT.ii_le_f hc50) rfl ?_
    refine own_iconst C A at_53 (v := 1) rfl rfl ?_
    refine own_goto C A at_54 (by decide) (q := 58) (by decide) ?_
    exact w0_58 C A v0 v2 v4 v6 v10 v11 s0 (1 : Int32)
  · refine own_icmpY C A at_50 (Jvm.Free.XT.ii_le_t hc50) (by decide) (q := 57) (by decide) ?_
    refine own_iconst C A at_57 (v := 0) rfl rfl ?_
    exact w0_58 C A v0 v2 v4 v6 v10 v11 s0 (0 : Int32)
def f0_32 (v0 : Int64) (v2 : Int64) (v4 : Int64) (v6 : Int64) (v9 : Int32) (v10 : Int32) (s0 : Int32) : Int32 := (if (2 : Int32) < v9 then (f0_45 v0 v2 v4 v6 v9 v10 s0 (1 : Int32)) else (f0_45 v0 v2 v4 v6 v9 v10 s0 (0 : Int32)))
set_option maxRecDepth 65536 in
set_option maxHeartbeats 4000000 in
theorem w0_32 {Z : State} {a0 : Array Value} {p : Program} {l : Launch} {e : Env} {s : State} {m : MethodId} {args : Array Value} {below : List Frame} {meth : Method} {c : Code} {T : State} {h : Heap} {n0 : Nat} {u8 : Int32} (C : own_Cx Z a0 p l e room_1 s m args below meth c "com/example/fit50/fit50/io/WindowAddPinLaw" "law" code maxLocals ret) (A : own_At p l e room_1 s m args below meth c T h n0 0 0) (v0 : Int64) (v2 : Int64) (v4 : Int64) (v6 : Int64) (v9 : Int32) (v10 : Int32) (s0 : Int32) :
    own_Go p.tables e below (T.setTop (mkF m 32 #[.val (.long v0), .second, .val (.long v2), .second, .val (.long v4), .second, .val (.long v6), .second, .val (.int u8), .val (.int v9), .val (.int v10), .unset, .unset, .unset, .unset, .unset, .unset, .unset, .unset, .unset, .unset, .unset, .unset, .unset, .unset] [(.int s0)])) (own_QR s n0 1 3 (own_RV (f0_32 v0 v2 v4 v6 v9 v10 s0))) := by
  unfold f0_32
  refine own_istore C A at_32 (l' := #[.val (.long v0), .second, .val (.long v2), .second, .val (.long v4), .second, .val (.long v6), .second, .val (.int u8), .val (.int v9), .val (.int v10), .val (.int s0), .unset, .unset, .unset, .unset, .unset, .unset, .unset, .unset, .unset, .unset, .unset, .unset, .unset]) rfl rfl ?_
  refine own_iload C A at_34 rfl rfl ?_
  refine own_iconst C A at_36 (v := 2) rfl rfl ?_
  refine own_ite (fun hc37 => ?_) (fun hc37 => ?_)
  · refine own_icmpN C A at_37 (Jvm.Free.XT.ii_le_f hc37) rfl ?_
    refine own_iconst C A at_40 (v := 1) rfl rfl ?_
    refine own_goto C A at_41 (by decide) (q := 45) (by decide) ?_
    exact w0_45 C A v0 v2 v4 v6 v9 v10 s0 (1 : Int32)
  · refine own_icmpY C A at_37 (Jvm.Free.XT.ii_le_t hc37) (by decide) (q := 44) (by decide) ?_
    refine own_iconst C A at_44 (v := 0) rfl rfl ?_
    exact w0_45 C A v0 v2 v4 v6 v9 v10 s0 (0 : Int32)
def f0_19 (v0 : Int64) (v2 : Int64) (v4 : Int64) (v6 : Int64) (v9 : Int32) (s0 : Int32) : Int32 := (if (1 : Int32) < v9 then (f0_32 v0 v2 v4 v6 v9 s0 (1 : Int32)) else (f0_32 v0 v2 v4 v6 v9 s0 (0 : Int32)))
set_option maxRecDepth 65536 in
set_option maxHeartbeats 4000000 in
theorem w0_19 {Z : State} {a0 : Array Value} {p : Program} {l : Launch} {e : Env} {s : State} {m : MethodId} {args : Array Value} {below : List Frame} {meth : Method} {c : Code} {T : State} {h : Heap} {n0 : Nat} {u8 : Int32} (C : own_Cx Z a0 p l e room_1 s m args below meth c "com/example/fit50/fit50/io/WindowAddPinLaw" "law" code maxLocals ret) (A : own_At p l e room_1 s m args below meth c T h n0 0 0) (v0 : Int64) (v2 : Int64) (v4 : Int64) (v6 : Int64) (v9 : Int32) (s0 : Int32) :
    own_Go p.tables e below (T.setTop (mkF m 19 #[.val (.long v0), .second, .val (.long v2), .second, .val (.long v4), .second, .val (.long v6), .second, .val (.int u8), .val (.int v9), .unset, .unset, .unset, .unset, .unset, .unset, .unset, .unset, .unset, .unset, .unset, .unset, .unset, .unset, .unset] [(.int s0)])) (own_QR s n0 1 3 (own_RV (f0_19 v0 v2 v4 v6 v9 s0))) := by
  unfold f0_19
  refine own_istore C A at_19 (l' := #[.val (.long v0), .second, .val (.long v2), .second, .val (.long v4), .second, .val (.long v6), .second, .val (.int u8), .val (.int v9), .val (.int s0), .unset, .unset, .unset, .unset, .unset, .unset, .unset, .unset, .unset, .unset, .unset, .unset, .unset, .unset]) rfl rfl ?_
  refine own_iload C A at_21 rfl rfl ?_
  refine own_iconst C A at_23 (v := 1) rfl rfl ?_
  refine own_ite (fun hc24 => ?_) (fun hc24 => ?_)
  · refine own_icmpN C A at_24 (Jvm.Free.XT.ii_le_f hc24) rfl ?_
    refine own_iconst C A at_27 (v := 1) rfl rfl ?_
    refine own_goto C A at_28 (by decide) (q := 32) (by decide) ?_
    exact w0_32 C A v0 v2 v4 v6 v9 s0 (1 : Int32)
  · refine own_icmpY C A at_24 (Jvm.Free.XT.ii_le_t hc24) (by decide) (q := 31) (by decide) ?_
    refine own_iconst C A at_31 (v := 0) rfl rfl ?_
    exact w0_32 C A v0 v2 v4 v6 v9 s0 (0 : Int32)
def f0_0 (v0 : Int64) (v2 : Int64) (v4 : Int64) (v6 : Int64) (v8 : Int32) : Int32 := (if (0 : Int32) < ((v8 &&& (2147483647 : Int32)) % (5 : Int32)) then (f0_19 v0 v2 v4 v6 ((v8 &&& (2147483647 : Int32)) % (5 : Int32)) (1 : Int32)) else (f0_19 v0 v2 v4 v6 ((v8 &&& (2147483647 : Int32)) % (5 : Int32)) (0 : Int32)))
set_option maxRecDepth 65536 in
set_option maxHeartbeats 4000000 in
theorem w0_0 {Z : State} {a0 : Array Value} {p : Program} {l : Launch} {e : Env} {s : State} {m : MethodId} {args : Array Value} {below : List Frame} {meth : Method} {c : Code} {T : State} {h : Heap} {n0 : Nat}  (C : own_Cx Z a0 p l e room_1 s m args below meth c "com/example/fit50/fit50/io/WindowAddPinLaw" "law" code maxLocals ret) (A : own_At p l e room_1 s m args below meth c T h n0 0 0) (v0 : Int64) (v2 : Int64) (v4 : Int64) (v6 : Int64) (v8 : Int32) :
    own_Go p.tables e below (T.setTop (mkF m 0 #[.val (.long v0), .second, .val (.long v2), .second, .val (.long v4), .second, .val (.long v6), .second, .val (.int v8), .unset, .unset, .unset, .unset, .unset, .unset, .unset, .unset, .unset, .unset, .unset, .unset, .unset, .unset, .unset, .unset] [])) (own_QR s n0 1 3 (own_RV (f0_0 v0 v2 v4 v6 v8))) := by
  unfold f0_0
  refine own_iload C A at_0 rfl rfl ?_
  refine own_ldcI C A (own_w C 0 rfl) at_2 rfl ?_
  refine own_iand C A at_4 rfl ?_
  refine own_iconst C A at_5 (v := 5) rfl rfl ?_
  refine own_irem C A at_6 (by decide) rfl ?_
  refine own_istore C A at_7 (l' := #[.val (.long v0), .second, .val (.long v2), .second, .val (.long v4), .second, .val (.long v6), .second, .val (.int v8), .val (.int ((v8 &&& (2147483647 : Int32)) % (5 : Int32))), .unset, .unset, .unset, .unset, .unset, .unset, .unset, .unset, .unset, .unset, .unset, .unset, .unset, .unset, .unset]) rfl rfl ?_
  refine own_iload C A at_9 rfl rfl ?_
  refine own_ite (fun hc11 => ?_) (fun hc11 => ?_)
  · refine own_ifN C A at_11 (Jvm.Free.XT.i0_le_f hc11) rfl ?_
    refine own_iconst C A at_14 (v := 1) rfl rfl ?_
    refine own_goto C A at_15 (by decide) (q := 19) (by decide) ?_
    exact w0_19 C A v0 v2 v4 v6 ((v8 &&& (2147483647 : Int32)) % (5 : Int32)) (1 : Int32)
  · refine own_ifY C A at_11 (Jvm.Free.XT.i0_le_t hc11) (by decide) (q := 18) (by decide) ?_
    refine own_iconst C A at_18 (v := 0) rfl rfl ?_
    exact w0_19 C A v0 v2 v4 v6 ((v8 &&& (2147483647 : Int32)) % (5 : Int32)) (0 : Int32)
theorem own_ef0 (m : MethodId) (v0 : Int64) (v2 : Int64) (v4 : Int64) (v6 : Int64) (v8 : Int32) : entryFrame m #[(.long v0), (.long v2), (.long v4), (.long v6), (.int v8)] maxLocals = mkF m 0 #[.val (.long v0), .second, .val (.long v2), .second, .val (.long v4), .second, .val (.long v6), .second, .val (.int v8), .unset, .unset, .unset, .unset, .unset, .unset, .unset, .unset, .unset, .unset, .unset, .unset, .unset, .unset, .unset, .unset] [] := by first | (simp [entryFrame, mkF, argsToLocals, Value.category, maxLocals]; done) | rfl
theorem rm0 (l : Launch) (Z : State) (a0 : Array Value) (hw : ∀ d ∈ tables_1, d.before a0 Z = true) (ws : List Jvm.Cond) (v0 : Int64) (v2 : Int64) (v4 : Int64) (v6 : Int64) (v8 : Int32) (h : Heap) (n0 : Nat) (hn : n0 ≤ h.size) :
    MetFree l x (head1 (Jvm.Cond.code x code maxLocals ret :: ws) room_1) (fun a U => a = #[(.long v0), (.long v2), (.long v4), (.long v6), (.int v8)] ∧ Z.Warmed39 U.vm ∧ U.heap = h) (fun _ _ _ _ _ => True) (fun _ U o U' => own_QR U n0 1 3 (own_RV (f0_0 v0 v2 v4 v6 v8)) o U') :=
  own_met (plainFor_of_name (by first | (simp [plainName, overriddenIn, x]; done) | decide +kernel)) hw hn (fun m => own_ef0 m v0 v2 v4 v6 v8) (fun p e s m below meth c T C A => w0_0 C A v0 v2 v4 v6 v8)
def own_Ch (vs : List Int64) (l b : Int64) : Prop := (b = -9223372036854775808 ∨ (b ∈ vs ∧ b.toInt < l.toInt)) ∧ ∀ v ∈ vs, v.toInt < l.toInt → v.toInt ≤ b.toInt
theorem own_uniq {vs : List Int64} {l b1 b2 : Int64} (h1 : own_Ch vs l b1) (h2 : own_Ch vs l b2) : b1 = b2 := by
  have lm : (-9223372036854775808 : Int64).toInt = -9223372036854775808 := rfl
  have r1 := rng64 b1
  have r2 := rng64 b2
  apply Int64.toInt_inj.mp
  obtain ⟨a1, a2⟩ := h1
  obtain ⟨c1, c2⟩ := h2
  rcases a1 with rfl | ⟨m1, l1⟩ <;> rcases c1 with rfl | ⟨m2, l2⟩
  · rfl
  · have := a2 _ m2 l2; omega
  · have := c2 _ m1 l1; omega
  · have := a2 _ m2 l2; have := c2 _ m1 l1; omega
def own_Inv (vs : List Int64) (l b : Int64) : Prop := (∀ v ∈ vs, v.toInt ≤ l.toInt) ∧ (l = -9223372036854775808 ∨ l ∈ vs) ∧ own_Ch vs l b
theorem own_addE (v e l b : Int64) : (f5_0 v e l b).1 = f1_0 e v := by
  unfold f5_0
  split
  · rfl
  · split <;> rfl
theorem own_addL (v e l b : Int64) : (f5_0 v e l b).2.1 = f2_0 l v := by
  unfold f5_0 f2_0
  by_cases h : l < v
  · rw [if_pos h, if_pos h]
  · rw [if_neg h, if_neg h]; split <;> rfl
theorem own_max (a b : Int64) : (f2_0 a b = a ∨ f2_0 a b = b) ∧ a.toInt ≤ (f2_0 a b).toInt ∧ b.toInt ≤ (f2_0 a b).toInt := by
  unfold f2_0
  by_cases h : a < b
  · rw [if_pos h]; rw [Int64.lt_iff_toInt_lt] at h; exact ⟨Or.inr rfl, by omega, by omega⟩
  · rw [if_neg h]; rw [Int64.lt_iff_toInt_lt] at h; exact ⟨Or.inl rfl, by omega, by omega⟩
theorem own_chMax {vs : List Int64} {l b v : Int64} (h : own_Ch vs l b) (hv : v.toInt < l.toInt) : own_Ch (v :: vs) l (f2_0 b v) := by
  obtain ⟨a1, a2⟩ := h
  obtain ⟨m1, m2, m3⟩ := own_max b v
  constructor
  · rcases m1 with m1 | m1
    · rw [m1]
      rcases a1 with a1 | ⟨a1, a3⟩
      · exact Or.inl a1
      · exact Or.inr ⟨List.mem_cons_of_mem _ a1, a3⟩
    · rw [m1]; exact Or.inr ⟨List.mem_cons_self, hv⟩
  · intro w hw hl
    rcases List.mem_cons.mp hw with rfl | hw
    · exact m3
    · have := a2 w hw hl; omega
theorem own_chSkip {vs : List Int64} {l b v : Int64} (h : own_Ch vs l b) (hv : ¬ v.toInt < l.toInt) : own_Ch (v :: vs) l b := by
  obtain ⟨a1, a2⟩ := h
  constructor
  · rcases a1 with a1 | ⟨a1, a3⟩
    · exact Or.inl a1
    · exact Or.inr ⟨List.mem_cons_of_mem _ a1, a3⟩
  · intro w hw hl
    rcases List.mem_cons.mp hw with rfl | hw
    · exact absurd hl hv
    · exact a2 w hw hl
theorem own_add {vs : List Int64} {l b : Int64} (v e : Int64) (h : own_Inv vs l b) : own_Inv (v :: vs) (f5_0 v e l b).2.1 (f5_0 v e l b).2.2 := by
  obtain ⟨i1, i2, i3⟩ := h
  unfold f5_0
  by_cases h1 : l < v
  · rw [if_pos h1]
    rw [Int64.lt_iff_toInt_lt] at h1
    refine ⟨fun w hw => ?_, Or.inr List.mem_cons_self, ?_, fun w hw hl => ?_⟩
    · rcases List.mem_cons.mp hw with rfl | hw
      · exact Int.le_refl _
      · have := i1 w hw; dsimp only; omega
    · rcases i2 with i2 | i2
      · exact Or.inl i2
      · exact Or.inr ⟨List.mem_cons_of_mem _ i2, h1⟩
    · rcases List.mem_cons.mp hw with rfl | hw
      · exact absurd hl (Int.lt_irrefl _)
      · exact i1 w hw
  · rw [if_neg h1]
    have h1' := h1
    rw [Int64.lt_iff_toInt_lt] at h1'
    by_cases h2 : v < l
    · rw [if_pos h2]
      rw [Int64.lt_iff_toInt_lt] at h2
      refine ⟨fun w hw => ?_, ?_, own_chMax i3 h2⟩
      · rcases List.mem_cons.mp hw with rfl | hw
        · dsimp only; omega
        · exact i1 w hw
      · rcases i2 with i2 | i2
        · exact Or.inl i2
        · exact Or.inr (List.mem_cons_of_mem _ i2)
    · rw [if_neg h2]
      rw [Int64.lt_iff_toInt_lt] at h2
      refine ⟨fun w hw => ?_, ?_, own_chSkip i3 h2⟩
      · rcases List.mem_cons.mp hw with rfl | hw
        · dsimp only; omega
        · exact i1 w hw
      · rcases i2 with i2 | i2
        · exact Or.inl i2
        · exact Or.inr (List.mem_cons_of_mem _ i2)
theorem own_start (l : Int64) : own_Ch [] l (-9223372036854775808) := ⟨Or.inl rfl, fun v hv => by cases hv⟩
theorem own_inv0 : own_Inv [] (-9223372036854775808) (-9223372036854775808) := ⟨fun v hv => (by cases hv), Or.inl rfl, own_start _⟩
theorem own_bel {vs : List Int64} {mx b : Int64} (v : Int64) (h : own_Ch vs mx b) : own_Ch (v :: vs) mx (f3_0 b 1 v mx) := by
  unfold f3_0
  rw [if_neg (by decide)]
  by_cases h1 : v < mx
  · rw [if_pos h1]; rw [Int64.lt_iff_toInt_lt] at h1; exact own_chMax h h1
  · rw [if_neg h1]; rw [Int64.lt_iff_toInt_lt] at h1; exact own_chSkip h h1
theorem own_bel0 (b v mx : Int64) : f3_0 b 0 v mx = b := by unfold f3_0; rw [if_pos rfl]
theorem own_fin (mx mn bl : Int64) : f0_298 mn ((mx - mn) + (if bl = -9223372036854775808 then 1 else mx - bl)) mn mx bl = 1 := by
  unfold f0_298 f6_0 f7_0 f7_24
  rw [if_pos rfl]
  by_cases h : bl = -9223372036854775808
  · rw [if_pos h, if_pos h, if_pos rfl]
  · rw [if_neg h, if_neg h, if_pos rfl]
theorem own_158 (a b c d : Int64) (i0 i1 i2 i3 : Int32) (mx mn : Int64) : f0_158 a b c d i0 i1 i2 i3 mx mn = f0_231 a b c d i0 i1 i2 i3 mx mn (if (f3_0 (f3_0 (f3_0 (f3_0 (-9223372036854775808 : Int64) i0 a mx) i1 b mx) i2 c mx) i3 d mx) = -9223372036854775808 then 1 else mx - (f3_0 (f3_0 (f3_0 (f3_0 (-9223372036854775808 : Int64) i0 a mx) i1 b mx) i2 c mx) i3 d mx)) := by
  unfold f0_158
  split <;> rfl
theorem own_close {vs : List Int64} {e l b mn mx bl : Int64} (hE : e = mn) (hL : l = mx) (hI : own_Inv vs l b) (hC : own_Ch vs mx bl) : f0_298 mn ((mx - mn) + (if bl = -9223372036854775808 then 1 else mx - bl)) e l b = 1 := by
  subst hE hL
  rw [own_uniq hI.2.2 hC]
  exact own_fin _ _ _
theorem own_invF : own_Inv [] (f4_0).2.1 (f4_0).2.2 := own_inv0
theorem own_231_0 (a b c d mx mn s0 : Int64) : f0_231 a b c d 0 0 0 0 mx mn s0 = f0_298 mn ((mx - mn) + s0) (f4_0).1 (f4_0).2.1 (f4_0).2.2 := by
  unfold f0_231
  rw [if_pos rfl]
  unfold f0_263
  rw [if_pos rfl]
  unfold f0_274
  rw [if_pos rfl]
  unfold f0_286
  rw [if_pos rfl]
theorem own_e0 (a b c d : Int64) : f0_19 a b c d 0 0 = f0_158 a b c d 0 0 0 0 (-9223372036854775808) 9223372036854775807 := by
  unfold f0_19
  rw [if_neg (by decide)]
  unfold f0_32
  rw [if_neg (by decide)]
  unfold f0_45
  rw [if_neg (by decide)]
  unfold f0_58
  rw [if_pos rfl]
  unfold f0_91
  rw [if_pos rfl]
  unfold f0_112
  rw [if_pos rfl]
  unfold f0_135
  rw [if_pos rfl]
theorem own_0 (a b c d : Int64) : f0_19 a b c d 0 0 = 1 := by
  rw [own_e0, own_158, own_231_0]
  simp only [own_bel0]
  refine own_close (vs := []) ?_ ?_ own_invF (own_start _)
  · rfl
  · rfl
theorem own_231_1 (a b c d mx mn s0 : Int64) : f0_231 a b c d 1 0 0 0 mx mn s0 = f0_298 mn ((mx - mn) + s0) (f5_0 a (f4_0).1 (f4_0).2.1 (f4_0).2.2).1 (f5_0 a (f4_0).1 (f4_0).2.1 (f4_0).2.2).2.1 (f5_0 a (f4_0).1 (f4_0).2.1 (f4_0).2.2).2.2 := by
  unfold f0_231
  rw [if_neg (by decide)]
  unfold f0_263
  rw [if_pos rfl]
  unfold f0_274
  rw [if_pos rfl]
  unfold f0_286
  rw [if_pos rfl]
theorem own_e1 (a b c d : Int64) : f0_19 a b c d 1 1 = f0_158 a b c d 1 0 0 0 (f2_0 (-9223372036854775808) a) (f1_0 9223372036854775807 a) := by
  unfold f0_19
  rw [if_neg (by decide)]
  unfold f0_32
  rw [if_neg (by decide)]
  unfold f0_45
  rw [if_neg (by decide)]
  unfold f0_58
  rw [if_neg (by decide)]
  unfold f0_91
  rw [if_pos rfl]
  unfold f0_112
  rw [if_pos rfl]
  unfold f0_135
  rw [if_pos rfl]
theorem own_1 (a b c d : Int64) : f0_19 a b c d 1 1 = 1 := by
  rw [own_e1, own_158, own_231_1]
  simp only [own_bel0]
  refine own_close (vs := [a]) ?_ ?_ (own_add a _ own_invF) (own_bel a (own_start _))
  · rw [own_addE]; rfl
  · rw [own_addL]; rfl
theorem own_231_2 (a b c d mx mn s0 : Int64) : f0_231 a b c d 1 1 0 0 mx mn s0 = f0_298 mn ((mx - mn) + s0) (f5_0 b (f5_0 a (f4_0).1 (f4_0).2.1 (f4_0).2.2).1 (f5_0 a (f4_0).1 (f4_0).2.1 (f4_0).2.2).2.1 (f5_0 a (f4_0).1 (f4_0).2.1 (f4_0).2.2).2.2).1 (f5_0 b (f5_0 a (f4_0).1 (f4_0).2.1 (f4_0).2.2).1 (f5_0 a (f4_0).1 (f4_0).2.1 (f4_0).2.2).2.1 (f5_0 a (f4_0).1 (f4_0).2.1 (f4_0).2.2).2.2).2.1 (f5_0 b (f5_0 a (f4_0).1 (f4_0).2.1 (f4_0).2.2).1 (f5_0 a (f4_0).1 (f4_0).2.1 (f4_0).2.2).2.1 (f5_0 a (f4_0).1 (f4_0).2.1 (f4_0).2.2).2.2).2.2 := by
  unfold f0_231
  rw [if_neg (by decide)]
  unfold f0_263
  rw [if_neg (by decide)]
  unfold f0_274
  rw [if_pos rfl]
  unfold f0_286
  rw [if_pos rfl]
theorem own_e2 (a b c d : Int64) : f0_19 a b c d 2 1 = f0_158 a b c d 1 1 0 0 (f2_0 (f2_0 (-9223372036854775808) a) b) (f1_0 (f1_0 9223372036854775807 a) b) := by
  unfold f0_19
  rw [if_pos (by decide)]
  unfold f0_32
  rw [if_neg (by decide)]
  unfold f0_45
  rw [if_neg (by decide)]
  unfold f0_58
  rw [if_neg (by decide)]
  unfold f0_91
  rw [if_neg (by decide)]
  unfold f0_112
  rw [if_pos rfl]
  unfold f0_135
  rw [if_pos rfl]
theorem own_2 (a b c d : Int64) : f0_19 a b c d 2 1 = 1 := by
  rw [own_e2, own_158, own_231_2]
  simp only [own_bel0]
  refine own_close (vs := [b, a]) ?_ ?_ (own_add b _ (own_add a _ own_invF)) (own_bel b (own_bel a (own_start _)))
  · rw [own_addE, own_addE]; rfl
  · rw [own_addL, own_addL]; rfl
theorem own_231_3 (a b c d mx mn s0 : Int64) : f0_231 a b c d 1 1 1 0 mx mn s0 = f0_298 mn ((mx - mn) + s0) (f5_0 c (f5_0 b (f5_0 a (f4_0).1 (f4_0).2.1 (f4_0).2.2).1 (f5_0 a (f4_0).1 (f4_0).2.1 (f4_0).2.2).2.1 (f5_0 a (f4_0).1 (f4_0).2.1 (f4_0).2.2).2.2).1 (f5_0 b (f5_0 a (f4_0).1 (f4_0).2.1 (f4_0).2.2).1 (f5_0 a (f4_0).1 (f4_0).2.1 (f4_0).2.2).2.1 (f5_0 a (f4_0).1 (f4_0).2.1 (f4_0).2.2).2.2).2.1 (f5_0 b (f5_0 a (f4_0).1 (f4_0).2.1 (f4_0).2.2).1 (f5_0 a (f4_0).1 (f4_0).2.1 (f4_0).2.2).2.1 (f5_0 a (f4_0).1 (f4_0).2.1 (f4_0).2.2).2.2).2.2).1 (f5_0 c (f5_0 b (f5_0 a (f4_0).1 (f4_0).2.1 (f4_0).2.2).1 (f5_0 a (f4_0).1 (f4_0).2.1 (f4_0).2.2).2.1 (f5_0 a (f4_0).1 (f4_0).2.1 (f4_0).2.2).2.2).1 (f5_0 b (f5_0 a (f4_0).1 (f4_0).2.1 (f4_0).2.2).1 (f5_0 a (f4_0).1 (f4_0).2.1 (f4_0).2.2).2.1 (f5_0 a (f4_0).1 (f4_0).2.1 (f4_0).2.2).2.2).2.1 (f5_0 b (f5_0 a (f4_0).1 (f4_0).2.1 (f4_0).2.2).1 (f5_0 a (f4_0).1 (f4_0).2.1 (f4_0).2.2).2.1 (f5_0 a (f4_0).1 (f4_0).2.1 (f4_0).2.2).2.2).2.2).2.1 (f5_0 c (f5_0 b (f5_0 a (f4_0).1 (f4_0).2.1 (f4_0).2.2).1 (f5_0 a (f4_0).1 (f4_0).2.1 (f4_0).2.2).2.1 (f5_0 a (f4_0).1 (f4_0).2.1 (f4_0).2.2).2.2).1 (f5_0 b (f5_0 a (f4_0).1 (f4_0).2.1 (f4_0).2.2).1 (f5_0 a (f4_0).1 (f4_0).2.1 (f4_0).2.2).2.1 (f5_0 a (f4_0).1 (f4_0).2.1 (f4_0).2.2).2.2).2.1 (f5_0 b (f5_0 a (f4_0).1 (f4_0).2.1 (f4_0).2.2).1 (f5_0 a (f4_0).1 (f4_0).2.1 (f4_0).2.2).2.1 (f5_0 a (f4_0).1 (f4_0).2.1 (f4_0).2.2).2.2).2.2).2.2 := by
  unfold f0_231
  rw [if_neg (by decide)]
  unfold f0_263
  rw [if_neg (by decide)]
  unfold f0_274
  rw [if_neg (by decide)]
  unfold f0_286
  rw [if_pos rfl]
theorem own_e3 (a b c d : Int64) : f0_19 a b c d 3 1 = f0_158 a b c d 1 1 1 0 (f2_0 (f2_0 (f2_0 (-9223372036854775808) a) b) c) (f1_0 (f1_0 (f1_0 9223372036854775807 a) b) c) := by
  unfold f0_19
  rw [if_pos (by decide)]
  unfold f0_32
  rw [if_pos (by decide)]
  unfold f0_45
  rw [if_neg (by decide)]
  unfold f0_58
  rw [if_neg (by decide)]
  unfold f0_91
  rw [if_neg (by decide)]
  unfold f0_112
  rw [if_neg (by decide)]
  unfold f0_135
  rw [if_pos rfl]
theorem own_3 (a b c d : Int64) : f0_19 a b c d 3 1 = 1 := by
  rw [own_e3, own_158, own_231_3]
  simp only [own_bel0]
  refine own_close (vs := [c, b, a]) ?_ ?_ (own_add c _ (own_add b _ (own_add a _ own_invF))) (own_bel c (own_bel b (own_bel a (own_start _))))
  · rw [own_addE, own_addE, own_addE]; rfl
  · rw [own_addL, own_addL, own_addL]; rfl
theorem own_231_4 (a b c d mx mn s0 : Int64) : f0_231 a b c d 1 1 1 1 mx mn s0 = f0_298 mn ((mx - mn) + s0) (f5_0 d (f5_0 c (f5_0 b (f5_0 a (f4_0).1 (f4_0).2.1 (f4_0).2.2).1 (f5_0 a (f4_0).1 (f4_0).2.1 (f4_0).2.2).2.1 (f5_0 a (f4_0).1 (f4_0).2.1 (f4_0).2.2).2.2).1 (f5_0 b (f5_0 a (f4_0).1 (f4_0).2.1 (f4_0).2.2).1 (f5_0 a (f4_0).1 (f4_0).2.1 (f4_0).2.2).2.1 (f5_0 a (f4_0).1 (f4_0).2.1 (f4_0).2.2).2.2).2.1 (f5_0 b (f5_0 a (f4_0).1 (f4_0).2.1 (f4_0).2.2).1 (f5_0 a (f4_0).1 (f4_0).2.1 (f4_0).2.2).2.1 (f5_0 a (f4_0).1 (f4_0).2.1 (f4_0).2.2).2.2).2.2).1 (f5_0 c (f5_0 b (f5_0 a (f4_0).1 (f4_0).2.1 (f4_0).2.2).1 (f5_0 a (f4_0).1 (f4_0).2.1 (f4_0).2.2).2.1 (f5_0 a (f4_0).1 (f4_0).2.1 (f4_0).2.2).2.2).1 (f5_0 b (f5_0 a (f4_0).1 (f4_0).2.1 (f4_0).2.2).1 (f5_0 a (f4_0).1 (f4_0).2.1 (f4_0).2.2).2.1 (f5_0 a (f4_0).1 (f4_0).2.1 (f4_0).2.2).2.2).2.1 (f5_0 b (f5_0 a (f4_0).1 (f4_0).2.1 (f4_0).2.2).1 (f5_0 a (f4_0).1 (f4_0).2.1 (f4_0).2.2).2.1 (f5_0 a (f4_0).1 (f4_0).2.1 (f4_0).2.2).2.2).2.2).2.1 (f5_0 c (f5_0 b (f5_0 a (f4_0).1 (f4_0).2.1 (f4_0).2.2).1 (f5_0 a (f4_0).1 (f4_0).2.1 (f4_0).2.2).2.1 (f5_0 a (f4_0).1 (f4_0).2.1 (f4_0).2.2).2.2).1 (f5_0 b (f5_0 a (f4_0).1 (f4_0).2.1 (f4_0).2.2).1 (f5_0 a (f4_0).1 (f4_0).2.1 (f4_0).2.2).2.1 (f5_0 a (f4_0).1 (f4_0).2.1 (f4_0).2.2).2.2).2.1 (f5_0 b (f5_0 a (f4_0).1 (f4_0).2.1 (f4_0).2.2).1 (f5_0 a (f4_0).1 (f4_0).2.1 (f4_0).2.2).2.1 (f5_0 a (f4_0).1 (f4_0).2.1 (f4_0).2.2).2.2).2.2).2.2).1 (f5_0 d (f5_0 c (f5_0 b (f5_0 a (f4_0).1 (f4_0).2.1 (f4_0).2.2).1 (f5_0 a (f4_0).1 (f4_0).2.1 (f4_0).2.2).2.1 (f5_0 a (f4_0).1 (f4_0).2.1 (f4_0).2.2).2.2).1 (f5_0 b (f5_0 a (f4_0).1 (f4_0).2.1 (f4_0).2.2).1 (f5_0 a (f4_0).1 (f4_0).2.1 (f4_0).2.2).2.1 (f5_0 a (f4_0).1 (f4_0).2.1 (f4_0).2.2).2.2).2.1 (f5_0 b (f5_0 a (f4_0).1 (f4_0).2.1 (f4_0).2.2).1 (f5_0 a (f4_0).1 (f4_0).2.1 (f4_0).2.2).2.1 (f5_0 a (f4_0).1 (f4_0).2.1 (f4_0).2.2).2.2).2.2).1 (f5_0 c (f5_0 b (f5_0 a (f4_0).1 (f4_0).2.1 (f4_0).2.2).1 (f5_0 a (f4_0).1 (f4_0).2.1 (f4_0).2.2).2.1 (f5_0 a (f4_0).1 (f4_0).2.1 (f4_0).2.2).2.2).1 (f5_0 b (f5_0 a (f4_0).1 (f4_0).2.1 (f4_0).2.2).1 (f5_0 a (f4_0).1 (f4_0).2.1 (f4_0).2.2).2.1 (f5_0 a (f4_0).1 (f4_0).2.1 (f4_0).2.2).2.2).2.1 (f5_0 b (f5_0 a (f4_0).1 (f4_0).2.1 (f4_0).2.2).1 (f5_0 a (f4_0).1 (f4_0).2.1 (f4_0).2.2).2.1 (f5_0 a (f4_0).1 (f4_0).2.1 (f4_0).2.2).2.2).2.2).2.1 (f5_0 c (f5_0 b (f5_0 a (f4_0).1 (f4_0).2.1 (f4_0).2.2).1 (f5_0 a (f4_0).1 (f4_0).2.1 (f4_0).2.2).2.1 (f5_0 a (f4_0).1 (f4_0).2.1 (f4_0).2.2).2.2).1 (f5_0 b (f5_0 a (f4_0).1 (f4_0).2.1 (f4_0).2.2).1 (f5_0 a (f4_0).1 (f4_0).2.1 (f4_0).2.2).2.1 (f5_0 a (f4_0).1 (f4_0).2.1 (f4_0).2.2).2.2).2.1 (f5_0 b (f5_0 a (f4_0).1 (f4_0).2.1 (f4_0).2.2).1 (f5_0 a (f4_0).1 (f4_0).2.1 (f4_0).2.2).2.1 (f5_0 a (f4_0).1 (f4_0).2.1 (f4_0).2.2).2.2).2.2).2.2).2.1 (f5_0 d (f5_0 c (f5_0 b (f5_0 a (f4_0).1 (f4_0).2.1 (f4_0).2.2).1 (f5_0 a (f4_0).1 (f4_0).2.1 (f4_0).2.2).2.1 (f5_0 a (f4_0).1 (f4_0).2.1 (f4_0).2.2).2.2).1 (f5_0 b (f5_0 a (f4_0).1 (f4_0).2.1 (f4_0).2.2).1 (f5_0 a (f4_0).1 (f4_0).2.1 (f4_0).2.2).2.1 (f5_0 a (f4_0).1 (f4_0).2.1 (f4_0).2.2).2.2).2.1 (f5_0 b (f5_0 a (f4_0).1 (f4_0).2.1 (f4_0).2.2).1 (f5_0 a (f4_0).1 (f4_0).2.1 (f4_0).2.2).2.1 (f5_0 a (f4_0).1 (f4_0).2.1 (f4_0).2.2).2.2).2.2).1 (f5_0 c (f5_0 b (f5_0 a (f4_0).1 (f4_0).2.1 (f4_0).2.2).1 (f5_0 a (f4_0).1 (f4_0).2.1 (f4_0).2.2).2.1 (f5_0 a (f4_0).1 (f4_0).2.1 (f4_0).2.2).2.2).1 (f5_0 b (f5_0 a (f4_0).1 (f4_0).2.1 (f4_0).2.2).1 (f5_0 a (f4_0).1 (f4_0).2.1 (f4_0).2.2).2.1 (f5_0 a (f4_0).1 (f4_0).2.1 (f4_0).2.2).2.2).2.1 (f5_0 b (f5_0 a (f4_0).1 (f4_0).2.1 (f4_0).2.2).1 (f5_0 a (f4_0).1 (f4_0).2.1 (f4_0).2.2).2.1 (f5_0 a (f4_0).1 (f4_0).2.1 (f4_0).2.2).2.2).2.2).2.1 (f5_0 c (f5_0 b (f5_0 a (f4_0).1 (f4_0).2.1 (f4_0).2.2).1 (f5_0 a (f4_0).1 (f4_0).2.1 (f4_0).2.2).2.1 (f5_0 a (f4_0).1 (f4_0).2.1 (f4_0).2.2).2.2).1 (f5_0 b (f5_0 a (f4_0).1 (f4_0).2.1 (f4_0).2.2).1 (f5_0 a (f4_0).1 (f4_0).2.1 (f4_0).2.2).2.1 (f5_0 a (f4_0).1 (f4_0).2.1 (f4_0).2.2).2.2).2.1 (f5_0 b (f5_0 a (f4_0).1 (f4_0).2.1 (f4_0).2.2).1 (f5_0 a (f4_0).1 (f4_0).2.1 (f4_0).2.2).2.1 (f5_0 a (f4_0).1 (f4_0).2.1 (f4_0).2.2).2.2).2.2).2.2).2.2 := by
  unfold f0_231
  rw [if_neg (by decide)]
  unfold f0_263
  rw [if_neg (by decide)]
  unfold f0_274
  rw [if_neg (by decide)]
  unfold f0_286
  rw [if_neg (by decide)]
theorem own_e4 (a b c d : Int64) : f0_19 a b c d 4 1 = f0_158 a b c d 1 1 1 1 (f2_0 (f2_0 (f2_0 (f2_0 (-9223372036854775808) a) b) c) d) (f1_0 (f1_0 (f1_0 (f1_0 9223372036854775807 a) b) c) d) := by
  unfold f0_19
  rw [if_pos (by decide)]
  unfold f0_32
  rw [if_pos (by decide)]
  unfold f0_45
  rw [if_pos (by decide)]
  unfold f0_58
  rw [if_neg (by decide)]
  unfold f0_91
  rw [if_neg (by decide)]
  unfold f0_112
  rw [if_neg (by decide)]
  unfold f0_135
  rw [if_neg (by decide)]
theorem own_4 (a b c d : Int64) : f0_19 a b c d 4 1 = 1 := by
  rw [own_e4, own_158, own_231_4]
  refine own_close (vs := [d, c, b, a]) ?_ ?_ (own_add d _ (own_add c _ (own_add b _ (own_add a _ own_invF)))) (own_bel d (own_bel c (own_bel b (own_bel a (own_start _)))))
  · rw [own_addE, own_addE, own_addE, own_addE]; rfl
  · rw [own_addL, own_addL, own_addL, own_addL]; rfl
theorem own_five (o : Int32) : ((o &&& 2147483647) % 5) = 0 ∨ ((o &&& 2147483647) % 5) = 1 ∨ ((o &&& 2147483647) % 5) = 2 ∨ ((o &&& 2147483647) % 5) = 3 ∨ ((o &&& 2147483647) % 5) = 4 := by
  have h1 := c_mask o 2147483647 31 (by decide) (by decide)
  have h2 := (c_irem (o &&& 2147483647) 5 5 rfl).1 (by omega)
  have l0 : (0 : Int32).toInt = 0 := rfl
  have l1 : (1 : Int32).toInt = 1 := rfl
  have l2 : (2 : Int32).toInt = 2 := rfl
  have l3 : (3 : Int32).toInt = 3 := rfl
  have l4 : (4 : Int32).toInt = 4 := rfl
  simp only [← Int32.toInt_inj, l0, l1, l2, l3, l4]
  omega
theorem own_plain (a b c d : Int64) (k : Int32) : f0_0 a b c d k = 1 := by
  unfold f0_0
  rcases own_five k with h | h | h | h | h <;> rw [h]
  · rw [if_neg (by decide)]; exact own_0 a b c d
  · rw [if_pos (by decide)]; exact own_1 a b c d
  · rw [if_pos (by decide)]; exact own_2 a b c d
  · rw [if_pos (by decide)]; exact own_3 a b c d
  · rw [if_pos (by decide)]; exact own_4 a b c d

set_option maxRecDepth 65536 in
set_option maxHeartbeats 40000000 in
theorem own_comes {Post : Tables → Env → Array Value → State → Outcome → State → Prop} (hpost : ∀ tb e args s v u, (limb_1_1.after args s (.returned v) u = true ∧ limb_1_2.after args s (.returned v) u = true ∧ True) → FrameEnd s (.returned v) u (Jvm.fieldLocs frame_1_writes args s ++ Jvm.arrayLocs frame_1_arrays args s ++ Jvm.staticLocs frame_1_statics s) 16 128 → Post tb e args s (.returned v) u) :
    ArmFor flags0 classFile x code maxLocals ret World_1 tables_1 room_1 Calls_1 rest_1 Pre_1 Post := by
  intro l hfl _ _ p e ha hc hk s m args below hf hA hF happ hP
  obtain ⟨hcalls, hrest, hpre⟩ := hP
  obtain ⟨-, -, -, hnamed, -, -, -, hat⟩ := (Spec.applies_iff hf).mp happ
  obtain ⟨hg, hn⟩ := and_e (Cond.before_iff.mp (show (Jvm.Cond.and given_1 narrow_1).before args s = true from hpre))
  obtain ⟨h1, g0⟩ := and_e hg
  obtain ⟨k0, g1⟩ := and_e g0
  obtain ⟨k1, g2⟩ := and_e g1
  obtain ⟨k2, g3⟩ := and_e g2
  obtain ⟨k3, g4⟩ := and_e g3
  obtain ⟨w0, w1, w2, w3, w4, rfl⟩ : ∃ w0 w1 w2 w3 w4 : Value, args = #[w0, w1, w2, w3, w4] := by
    have hs : args.size = 5 := by simpa [Cond.value, given_1] using h1
    obtain ⟨L⟩ := args
    match L, hs with
    | [w0, w1, w2, w3, w4], _ => exact ⟨w0, w1, w2, w3, w4, rfl⟩
  have hw := fun d (hd : d ∈ tables_1) => atoms_spec (ws := Jvm.Cond.code x code maxLocals ret :: tables_1) hat d (List.mem_cons_of_mem _ hd)
  obtain ⟨i0, e0⟩ := isL_v k0
  obtain rfl : w0 = (.long i0) := Option.some.inj e0
  obtain ⟨i1, e1⟩ := isL_v k1
  obtain rfl : w1 = (.long i1) := Option.some.inj e1
  obtain ⟨i2, e2⟩ := isL_v k2
  obtain rfl : w2 = (.long i2) := Option.some.inj e2
  obtain ⟨i3, e3⟩ := isL_v k3
  obtain rfl : w3 = (.long i3) := Option.some.inj e3
  obtain ⟨i4, e4⟩ := is_v g4
  obtain rfl : w4 = (.int i4) := Option.some.inj e4
  obtain ⟨n, o, h1, h2, h3, _, L, rfl, ⟨hv, N⟩, hq⟩ := rm0 l s _ hw tables_1 i0 i1 i2 i3 i4 s.heap s.heap.size (Nat.le_refl _) p e ha hc hk s m _ below hf ((Spec.applies_iff_loose hf).mp happ).1 ⟨rfl, State.Warmed39.refl s, rfl⟩ trivial
  have hv' := Eq.trans hv (congrArg (fun z => some (Value.int z)) (own_plain i0 i1 i2 i3 i4))
  subst hv'
  refine ⟨n, _, h1, h2, h3, hpost _ _ _ _ _ _ ⟨Cond.after_iff.mpr rfl, Cond.after_iff.mpr (eq_i res_at (Term.int_eval (1)) rfl), trivial⟩ ⟨hq.1, hq.2.1, (hq.2.2.sift fun y hy => Or.inr (N y hy)).mono (by decide) (by decide)⟩⟩
theorem main_1_1 : Claimed_1_1 := own_comes fun _ _ _ _ _ _ h hF => ⟨h.1, hF⟩
theorem main_1_2 : Claimed_1_2 := own_comes fun _ _ _ _ _ _ h hF => ⟨h.2.1, hF⟩
end Jvm.Pilot.@@N@@
namespace Jvm.Pilot.@@N@@
open Jvm Jvm.ClassFile Sem Op Lib Jvm.Free Jvm.Stand Jvm.Pilot.@@N@@.Jvm.D
/-! MADE BY PROGRAM (witnessworld.py) out of the Statement's table words and the real class files: 10 classes; the members and pool entries that the words name. The judged class is class 1, her method 2. -/
namespace start1
open Jvm.ClassFile
def u (s : String) : CpInfo := .utf8 (stringToUtf16 s)
/-- a pool by its gaps: so many unusable entries, then the entry; so many at the end -/
def gap : Nat → List CpInfo → List CpInfo
  | 0, r => r
  | n + 1, r => .unusable :: gap n r
def poolList (es : List (Nat × CpInfo)) (last : Nat) : List CpInfo := es.foldr (fun e r => gap e.1 (e.2 :: r)) (gap last [])
def pool (es : List (Nat × CpInfo)) (last : Nat) : Array CpInfo := ⟨poolList es last⟩
def fileOf (pool : Array CpInfo) (this : Nat) (attrs : Array Attribute := #[]) (ms : Array MethodInfo := #[]) (fl : Nat := 33) (sup : Nat := 0) (ifs : Array Nat := #[]) (fds : Array FieldInfo := #[]) : ClassFile where
  minorVersion := 0
  majorVersion := 65
  constantPool := pool
  accessFlags := fl
  thisClass := this
  superClass := sup
  interfaces := ifs
  fields := fds
  methods := ms
  attributes := attrs
def plain (name : String) (sup : Option ClassId) : Class where
  name := name
  kind := .ordinary
  loader := none
  accessFlags := 33
  super := sup
  interfaces := #[]
  cf := none
  fields := #[]
  methods := #[]
  instanceTypes := #[]
  staticTypes := #[]
  resolved := #[]
  callSites := []
  init := .initialized
  statics := none
  mirror := none

def pool0 : Array CpInfo := pool [(5, u "<init>"), (0, u "()V"), (1, .class_ 10), (1, u "java/lang/Object")] 113

def k0c0 : Code := { maxStack := 0, maxLocals := 1, code := object_method_1_code, exceptionTable := #[], attributes := #[] }
def k0m0 : Method := { name := "<init>", desc := "()V", sig := { parameters := [], returnType := none }, accessFlags := 1, code := some k0c0 }
/-- java/lang/Object -/
def k0 : Class := { plain "java/lang/Object" none with
  accessFlags := 33
  interfaces := #[]
  cf := some (fileOf pool0 8 #[] #[{ accessFlags := 1, nameIndex := 5, descriptorIndex := 6, attributes := #[] }] 33 0 #[] #[])
  fields := #[]
  methods := #[k0m0]
  instanceTypes := #[]
  staticTypes := #[]
  resolved := Array.replicate 124 none
  statics := none }

def pool1 : Array CpInfo := pool [(2, .class_ 4), (0, .nameAndType 5 6), (0, u "java/lang/Object"), (0, u "<init>"), (0, u "()V"), (0, .methodref 8 9), (0, .class_ 10), (0, .nameAndType 11 12), (0, u "java/lang/Math"), (0, u "max"), (0, u "(JJ)J"), (0, .integer 2147483647), (2, .long 9223372036854775808), (1, .long 9223372036854775807), (1, .methodref 8 21), (0, .nameAndType 22 12), (0, u "min"), (0, .methodref 24 25), (0, .class_ 26), (0, .nameAndType 27 28), (0, u "com/example/fit50/fit50/io/WindowAddPinLaw"), (0, u "below"), (0, u "(JZJJ)J"), (0, .class_ 30), (0, u "com/example/fit50/fit50/io/Window"), (0, .methodref 29 3), (0, .methodref 29 33), (0, .nameAndType 34 35), (0, u "add"), (0, u "(J)V"), (0, .methodref 29 37), (0, .nameAndType 38 39), (0, u "start"), (0, u "()J"), (0, .methodref 29 41), (0, .nameAndType 42 39), (0, u "seconds"), (3, u "law"), (0, u "(JJJJI)Z")] 2

def k1m0 : Method := { name := "<init>", desc := "()V", sig := { parameters := [], returnType := none }, accessFlags := 1, code := none }
def k1c1 : Code := { maxStack := 4, maxLocals := 7, code := method_2_code, exceptionTable := #[], attributes := #[] }
def k1m1 : Method := { name := "below", desc := "(JZJJ)J", sig := { parameters := [.long, .boolean, .long, .long], returnType := some .long }, accessFlags := 10, code := some k1c1 }
def k1c2 : Code := { maxStack := 7, maxLocals := 25, code := code, exceptionTable := #[], attributes := #[] }
def k1m2 : Method := { name := "law", desc := "(JJJJI)Z", sig := { parameters := [.long, .long, .long, .long, .int], returnType := some .boolean }, accessFlags := 9, code := some k1c2 }
/-- com/example/fit50/fit50/io/WindowAddPinLaw -/
def k1 : Class := { plain "com/example/fit50/fit50/io/WindowAddPinLaw" (some 0) with
  accessFlags := 49
  interfaces := #[]
  cf := some (fileOf pool1 24 #[] #[{ accessFlags := 1, nameIndex := 5, descriptorIndex := 6, attributes := #[] }, { accessFlags := 10, nameIndex := 27, descriptorIndex := 28, attributes := #[] }, { accessFlags := 9, nameIndex := 46, descriptorIndex := 47, attributes := #[] }] 49 2 #[] #[])
  fields := #[]
  methods := #[k1m0, k1m1, k1m2]
  instanceTypes := #[]
  staticTypes := #[]
  resolved := Array.replicate 50 none
  statics := none }

def pool2 : Array CpInfo := pool [(1, .class_ 2), (0, u "java/lang/Math"), (1, .class_ 6), (1, u "java/lang/Object"), (0, u "<init>"), (0, u "()V"), (89, .class_ 100), (1, u "java/lang/Math$RandomNumberGeneratorHolder"), (20, u "(JJ)J"), (50, u "negativeZeroFloatBits"), (0, u "J"), (2, u "negativeZeroDoubleBits"), (21, u "max"), (2, u "min"), (43, u "$assertionsDisabled"), (0, u "Z"), (91, u "twoToTheDoubleScaleDown"), (0, u "D"), (4, u "twoToTheDoubleScaleUp"), (9, u "E"), (3, u "PI"), (2, u "TAU"), (2, u "DEGREES_TO_RADIANS"), (0, u "RADIANS_TO_DEGREES")] 94

def k2m0 : Method := { name := "<init>", desc := "()V", sig := { parameters := [], returnType := none }, accessFlags := 2, code := none }
def k2c1 : Code := { maxStack := 4, maxLocals := 4, code := jdk_29_method_66_code, exceptionTable := #[], attributes := #[] }
def k2m1 : Method := { name := "max", desc := "(JJ)J", sig := { parameters := [.long, .long], returnType := some .long }, accessFlags := 9, code := some k2c1 }
def k2c2 : Code := { maxStack := 4, maxLocals := 4, code := jdk_29_method_70_code, exceptionTable := #[], attributes := #[] }
def k2m2 : Method := { name := "min", desc := "(JJ)J", sig := { parameters := [.long, .long], returnType := some .long }, accessFlags := 9, code := some k2c2 }
/-- java/lang/Math -/
def k2 : Class := { plain "java/lang/Math" (some 0) with
  accessFlags := 49
  interfaces := #[]
  cf := some (fileOf pool2 1 #[.nestMembers #[98]] #[{ accessFlags := 2, nameIndex := 7, descriptorIndex := 8, attributes := #[] }, { accessFlags := 9, nameIndex := 198, descriptorIndex := 121, attributes := #[] }, { accessFlags := 9, nameIndex := 201, descriptorIndex := 121, attributes := #[] }] 49 4 #[] #[{ accessFlags := 25, nameIndex := 354, descriptorIndex := 339, attributes := #[] }, { accessFlags := 25, nameIndex := 358, descriptorIndex := 339, attributes := #[] }, { accessFlags := 25, nameIndex := 361, descriptorIndex := 339, attributes := #[] }, { accessFlags := 26, nameIndex := 364, descriptorIndex := 339, attributes := #[] }, { accessFlags := 26, nameIndex := 365, descriptorIndex := 339, attributes := #[] }, { accessFlags := 26, nameIndex := 172, descriptorIndex := 173, attributes := #[] }, { accessFlags := 26, nameIndex := 176, descriptorIndex := 173, attributes := #[] }, { accessFlags := 8, nameIndex := 344, descriptorIndex := 339, attributes := #[] }, { accessFlags := 8, nameIndex := 338, descriptorIndex := 339, attributes := #[] }, { accessFlags := 4120, nameIndex := 245, descriptorIndex := 246, attributes := #[] }])
  fields := #[{ name := "E", type := .double, accessFlags := 25, slot := 0, constantValue := 0 }, { name := "PI", type := .double, accessFlags := 25, slot := 1, constantValue := 0 }, { name := "TAU", type := .double, accessFlags := 25, slot := 2, constantValue := 0 }, { name := "DEGREES_TO_RADIANS", type := .double, accessFlags := 26, slot := 3, constantValue := 0 }, { name := "RADIANS_TO_DEGREES", type := .double, accessFlags := 26, slot := 4, constantValue := 0 }, { name := "negativeZeroFloatBits", type := .long, accessFlags := 26, slot := 5, constantValue := 0 }, { name := "negativeZeroDoubleBits", type := .long, accessFlags := 26, slot := 6, constantValue := 0 }, { name := "twoToTheDoubleScaleUp", type := .double, accessFlags := 8, slot := 7, constantValue := 0 }, { name := "twoToTheDoubleScaleDown", type := .double, accessFlags := 8, slot := 8, constantValue := 0 }, { name := "$assertionsDisabled", type := .boolean, accessFlags := 4120, slot := 9, constantValue := 0 }]
  methods := #[k2m0, k2m1, k2m2]
  instanceTypes := #[]
  staticTypes := #[.double, .double, .double, .double, .double, .long, .long, .double, .double, .boolean]
  resolved := Array.replicate 460 none
  statics := none }

def pool3 : Array CpInfo := pool [(1, .methodref 2 3), (0, .class_ 4), (0, .nameAndType 5 6), (0, u "java/lang/Object"), (0, u "<init>"), (0, u "()V"), (2, .long 9223372036854775807), (1, .fieldref 12 13), (0, .class_ 14), (0, .nameAndType 15 16), (0, u "com/example/fit50/fit50/io/Window"), (0, u "earliest"), (0, u "J"), (0, .long 9223372036854775808), (1, .fieldref 12 20), (0, .nameAndType 21 16), (0, u "latest"), (0, .fieldref 12 23), (0, .nameAndType 24 16), (0, u "beforeLatest"), (0, .methodref 26 27), (0, .class_ 28), (0, .nameAndType 29 30), (0, u "java/lang/Math"), (0, u "min"), (0, u "(JJ)J"), (0, .methodref 26 32), (0, .nameAndType 33 30), (0, u "max"), (2, u "add"), (0, u "(J)V"), (1, u "start"), (0, u "()J"), (0, u "seconds")] 2

def k3c0 : Code := { maxStack := 3, maxLocals := 1, code := prog_57_method_1_code, exceptionTable := #[], attributes := #[] }
def k3m0 : Method := { name := "<init>", desc := "()V", sig := { parameters := [], returnType := none }, accessFlags := 0, code := some k3c0 }
def k3c1 : Code := { maxStack := 5, maxLocals := 3, code := prog_57_method_2_code, exceptionTable := #[], attributes := #[] }
def k3m1 : Method := { name := "add", desc := "(J)V", sig := { parameters := [.long], returnType := none }, accessFlags := 0, code := some k3c1 }
def k3c2 : Code := { maxStack := 2, maxLocals := 1, code := prog_57_method_3_code, exceptionTable := #[], attributes := #[] }
def k3m2 : Method := { name := "start", desc := "()J", sig := { parameters := [], returnType := some .long }, accessFlags := 0, code := some k3c2 }
def k3c3 : Code := { maxStack := 4, maxLocals := 3, code := prog_57_method_4_code, exceptionTable := #[], attributes := #[] }
def k3m3 : Method := { name := "seconds", desc := "()J", sig := { parameters := [], returnType := some .long }, accessFlags := 0, code := some k3c3 }
/-- com/example/fit50/fit50/io/Window -/
def k3 : Class := { plain "com/example/fit50/fit50/io/Window" (some 0) with
  accessFlags := 48
  interfaces := #[]
  cf := some (fileOf pool3 12 #[] #[{ accessFlags := 0, nameIndex := 5, descriptorIndex := 6, attributes := #[] }, { accessFlags := 0, nameIndex := 36, descriptorIndex := 37, attributes := #[] }, { accessFlags := 0, nameIndex := 39, descriptorIndex := 40, attributes := #[] }, { accessFlags := 0, nameIndex := 41, descriptorIndex := 40, attributes := #[] }] 48 2 #[] #[{ accessFlags := 2, nameIndex := 15, descriptorIndex := 16, attributes := #[] }, { accessFlags := 2, nameIndex := 21, descriptorIndex := 16, attributes := #[] }, { accessFlags := 2, nameIndex := 24, descriptorIndex := 16, attributes := #[] }])
  fields := #[{ name := "earliest", type := .long, accessFlags := 2, slot := 0, constantValue := 0 }, { name := "latest", type := .long, accessFlags := 2, slot := 1, constantValue := 0 }, { name := "beforeLatest", type := .long, accessFlags := 2, slot := 2, constantValue := 0 }]
  methods := #[k3m0, k3m1, k3m2, k3m3]
  instanceTypes := #[.long, .long, .long]
  staticTypes := #[]
  resolved := Array.replicate 44 none
  statics := none }

def pool4 : Array CpInfo := pool [(1, u "java/lang/Cloneable"), (0, .class_ 1), (0, u "java/lang/Object"), (0, .class_ 3)] 3

/-- java/lang/Cloneable -/
def k4 : Class := { plain "java/lang/Cloneable" (some 0) with
  accessFlags := 1537
  interfaces := #[]
  cf := some (fileOf pool4 2 #[] #[] 1537 4 #[] #[])
  fields := #[]
  methods := #[]
  instanceTypes := #[]
  staticTypes := #[]
  resolved := Array.replicate 8 none
  statics := none }

def pool5 : Array CpInfo := pool [(1, u "java/io/Serializable"), (0, .class_ 1), (0, u "java/lang/Object"), (0, .class_ 3)] 3

/-- java/io/Serializable -/
def k5 : Class := { plain "java/io/Serializable" (some 0) with
  accessFlags := 1537
  interfaces := #[]
  cf := some (fileOf pool5 2 #[] #[] 1537 4 #[] #[])
  fields := #[]
  methods := #[]
  instanceTypes := #[]
  staticTypes := #[]
  resolved := Array.replicate 8 none
  statics := none }

/-- the primitive byte -/
def k6 : Class := { plain "byte" none with kind := .primitive 'B', accessFlags := 0x411 }
/-- [B -/
def k7 : Class := { plain "[B" (some 0) with kind := .array 6 .byte, interfaces := #[4, 5], accessFlags := 1041 }

/-- the primitive int -/
def k8 : Class := { plain "int" none with kind := .primitive 'I', accessFlags := 0x411 }
/-- [I -/
def k9 : Class := { plain "[I" (some 0) with kind := .array 8 .int, interfaces := #[4, 5], accessFlags := 1041 }

def heap : Heap := #[]
def classes : Array Class := #[k0, k1, k2, k3, k4, k5, k6, k7, k8, k9]
def interned : List (Array UInt16 × Addr) := []
def slotsUsed : Nat := 0
def theMethod : MethodId := ⟨1, 2⟩
def args0 : Array Value := #[.long 1, .long 7, .long 2, .long 8, .int 3]
def aboutOver (below : List Frame) : State where
  vm := { classes := classes, interned := interned.toArray }
  heap := heap
  slotsUsed := slotsUsed
  threads := #[{ frames := .invoking theMethod args0 :: below }]
def below0 : List Frame := [.native { method := ⟨0, 0⟩, args := #[] }]
def about1 : State := aboutOver below0
def p0 : Program := .bare "" "" ""
def e0 : Env := launch0.env 0 0 0
theorem w_frames : about1.frames = Frame.invoking theMethod args0 :: below0 := rfl
set_option maxRecDepth 65536 in
theorem w_args : argsFit about1.vm theMethod args0 = true := by decide +kernel
set_option maxRecDepth 65536 in
theorem w_heap : heapFits about1 = true := by decide +kernel
set_option maxRecDepth 65536 in
theorem w_runnable : about1.curStatus? = some .runnable := by decide +kernel
set_option maxRecDepth 65536 in
theorem w_alone : about1.alone = true := by decide +kernel
set_option maxRecDepth 65536 in
theorem w_named : about1.methodNamed? x = some theMethod := by decide +kernel
set_option maxRecDepth 65536 in
theorem w_hears : about1.hears theMethod below0 = true := by decide +kernel
set_option maxRecDepth 65536 in
theorem w_ripe : about1.ripe theMethod args0 below0 = true := by decide +kernel
theorem w_running : about1.status = .running := rfl
set_option maxRecDepth 65536 in
theorem w_room : about1.hasRoom e0.platform room_1 = true :=
  launch0.hasRoom_least _ room_1 (by decide +kernel) (by decide +kernel) (by decide +kernel) (by decide +kernel) (by decide +kernel) (by decide +kernel)
theorem allAtoms_all (ts : List Jvm.Cond) (a : Array Jvm.Value) (st : Jvm.State) : (allAtoms ts).before a st = ts.all (fun c => c.before a st) := by
  induction ts with
  | nil => rfl
  | cons c t ih =>
    show (Jvm.Cond.and c (allAtoms t)).before a st = _
    rw [Jvm.Cond.before_and, ih, List.all_cons]
def words1 : List Jvm.Cond := Jvm.Cond.code x code maxLocals ret :: tables_1
/-- a 'code' word, met by the world's own term for the bytes: nothing is compared byte by byte -/
theorem code_word {y : MethodName} {bytes : ByteArray} {mx : Nat} {rt : Option FieldType} {a : Array Value} {s : State} {m : MethodId} {meth : Method} {c : Code} (h1 : s.methodNamed? y = some m) (h2 : s.vm.method? m = some meth) (h3 : meth.code = some c) (h4 : c.code = bytes)
    (h5 : (c.maxLocals == mx && c.exceptionTable.isEmpty && decide (c.maxStack ≤ mostOperands) && decide (meth.sig.returnType = rt) && !meth.locks && decide (parseMethodDescriptor y.desc = some meth.sig)) = true) : (Jvm.Cond.code y bytes mx rt).before a s = true := by
  simp only [Bool.and_eq_true, beq_iff_eq, Bool.not_eq_true', decide_eq_true_eq] at h5
  obtain ⟨⟨⟨⟨⟨g1, g2⟩, g3⟩, g4⟩, g5⟩, g6⟩ := h5
  simp [Cond.before, Cond.holds, Cond.value, h1, h2, h3, h4, g1, g2, g3, g4, g5, g6]
def isCode : Jvm.Cond → Bool
  | .code _ _ _ _ => true
  | _ => false
theorem all_split {L : List Jvm.Cond} {P : Jvm.Cond → Bool} (h1 : L.all (fun c => isCode c || P c) = true) (h2 : ∀ c ∈ L.filter isCode, P c = true) : L.all P = true := by
  refine List.all_eq_true.mpr fun c hc => ?_
  have h := List.all_eq_true.mp h1 c hc
  rcases Bool.eq_false_or_eq_true (isCode c) with hi | hi
  · exact h2 c (List.mem_filter.mpr ⟨hc, hi⟩)
  · simpa [hi] using h
set_option maxRecDepth 65536 in
theorem w_c0 : (Jvm.Cond.code x code maxLocals ret).before args0 about1 = true := code_word (m := ⟨1, 2⟩) (meth := k1m2) (c := k1c2) (by decide +kernel) rfl rfl rfl (by decide +kernel)
set_option maxRecDepth 65536 in
theorem w_c1 : (Jvm.Cond.code ({ cls := "java/lang/Math", name := "max", desc := "(JJ)J" } : Jvm.MethodName) jdk_29_method_66_code (4 : Nat) (Option.some Jvm.ClassFile.FieldType.long)).before args0 about1 = true := code_word (m := ⟨2, 1⟩) (meth := k2m1) (c := k2c1) (by decide +kernel) rfl rfl rfl (by decide +kernel)
set_option maxRecDepth 65536 in
theorem w_c2 : (Jvm.Cond.code ({ cls := "java/lang/Math", name := "min", desc := "(JJ)J" } : Jvm.MethodName) jdk_29_method_70_code (4 : Nat) (Option.some Jvm.ClassFile.FieldType.long)).before args0 about1 = true := code_word (m := ⟨2, 2⟩) (meth := k2m2) (c := k2c2) (by decide +kernel) rfl rfl rfl (by decide +kernel)
set_option maxRecDepth 65536 in
theorem w_c3 : (Jvm.Cond.code ({ cls := "com/example/fit50/fit50/io/WindowAddPinLaw", name := "below", desc := "(JZJJ)J" } : Jvm.MethodName) method_2_code (7 : Nat) (Option.some Jvm.ClassFile.FieldType.long)).before args0 about1 = true := code_word (m := ⟨1, 1⟩) (meth := k1m1) (c := k1c1) (by decide +kernel) rfl rfl rfl (by decide +kernel)
set_option maxRecDepth 65536 in
theorem w_c4 : (Jvm.Cond.code ({ cls := "com/example/fit50/fit50/io/Window", name := "<init>", desc := "()V" } : Jvm.MethodName) prog_57_method_1_code (1 : Nat) (Option.none : Option Jvm.ClassFile.FieldType)).before args0 about1 = true := code_word (m := ⟨3, 0⟩) (meth := k3m0) (c := k3c0) (by decide +kernel) rfl rfl rfl (by decide +kernel)
set_option maxRecDepth 65536 in
theorem w_c5 : (Jvm.Cond.code ({ cls := "java/lang/Object", name := "<init>", desc := "()V" } : Jvm.MethodName) object_method_1_code (1 : Nat) (Option.none : Option Jvm.ClassFile.FieldType)).before args0 about1 = true := code_word (m := ⟨0, 0⟩) (meth := k0m0) (c := k0c0) (by decide +kernel) rfl rfl rfl (by decide +kernel)
set_option maxRecDepth 65536 in
theorem w_c6 : (Jvm.Cond.code ({ cls := "com/example/fit50/fit50/io/Window", name := "add", desc := "(J)V" } : Jvm.MethodName) prog_57_method_2_code (3 : Nat) (Option.none : Option Jvm.ClassFile.FieldType)).before args0 about1 = true := code_word (m := ⟨3, 1⟩) (meth := k3m1) (c := k3c1) (by decide +kernel) rfl rfl rfl (by decide +kernel)
set_option maxRecDepth 65536 in
theorem w_c7 : (Jvm.Cond.code ({ cls := "com/example/fit50/fit50/io/Window", name := "start", desc := "()J" } : Jvm.MethodName) prog_57_method_3_code (1 : Nat) (Option.some Jvm.ClassFile.FieldType.long)).before args0 about1 = true := code_word (m := ⟨3, 2⟩) (meth := k3m2) (c := k3c2) (by decide +kernel) rfl rfl rfl (by decide +kernel)
set_option maxRecDepth 65536 in
theorem w_c8 : (Jvm.Cond.code ({ cls := "com/example/fit50/fit50/io/Window", name := "seconds", desc := "()J" } : Jvm.MethodName) prog_57_method_4_code (3 : Nat) (Option.some Jvm.ClassFile.FieldType.long)).before args0 about1 = true := code_word (m := ⟨3, 3⟩) (meth := k3m3) (c := k3c3) (by decide +kernel) rfl rfl rfl (by decide +kernel)
def codes1 : List Jvm.Cond := [Jvm.Cond.code x code maxLocals ret, Jvm.Cond.code ({ cls := "java/lang/Math", name := "max", desc := "(JJ)J" } : Jvm.MethodName) jdk_29_method_66_code (4 : Nat) (Option.some Jvm.ClassFile.FieldType.long), Jvm.Cond.code ({ cls := "java/lang/Math", name := "min", desc := "(JJ)J" } : Jvm.MethodName) jdk_29_method_70_code (4 : Nat) (Option.some Jvm.ClassFile.FieldType.long), Jvm.Cond.code ({ cls := "com/example/fit50/fit50/io/WindowAddPinLaw", name := "below", desc := "(JZJJ)J" } : Jvm.MethodName) method_2_code (7 : Nat) (Option.some Jvm.ClassFile.FieldType.long), Jvm.Cond.code ({ cls := "com/example/fit50/fit50/io/Window", name := "<init>", desc := "()V" } : Jvm.MethodName) prog_57_method_1_code (1 : Nat) (Option.none : Option Jvm.ClassFile.FieldType), Jvm.Cond.code ({ cls := "java/lang/Object", name := "<init>", desc := "()V" } : Jvm.MethodName) object_method_1_code (1 : Nat) (Option.none : Option Jvm.ClassFile.FieldType), Jvm.Cond.code ({ cls := "com/example/fit50/fit50/io/Window", name := "add", desc := "(J)V" } : Jvm.MethodName) prog_57_method_2_code (3 : Nat) (Option.none : Option Jvm.ClassFile.FieldType), Jvm.Cond.code ({ cls := "com/example/fit50/fit50/io/Window", name := "start", desc := "()J" } : Jvm.MethodName) prog_57_method_3_code (1 : Nat) (Option.some Jvm.ClassFile.FieldType.long), Jvm.Cond.code ({ cls := "com/example/fit50/fit50/io/Window", name := "seconds", desc := "()J" } : Jvm.MethodName) prog_57_method_4_code (3 : Nat) (Option.some Jvm.ClassFile.FieldType.long)]
set_option maxRecDepth 65536 in
theorem codes_eq : words1.filter isCode = codes1 := rfl
theorem w_codes : ∀ c ∈ words1.filter isCode, c.before args0 about1 = true := by
  rw [codes_eq]
  intro c hc
  simp only [codes1, List.mem_cons, List.not_mem_nil, or_false] at hc
  rcases hc with rfl | rfl | rfl | rfl | rfl | rfl | rfl | rfl | rfl
  · exact w_c0
  · exact w_c1
  · exact w_c2
  · exact w_c3
  · exact w_c4
  · exact w_c5
  · exact w_c6
  · exact w_c7
  · exact w_c8
set_option maxRecDepth 65536 in
theorem w_t1 : (words1.take 24).all (fun c => isCode c || c.before args0 about1) = true := by decide +kernel
set_option maxRecDepth 65536 in
theorem w_t2 : ((words1.drop 24).take 24).all (fun c => isCode c || c.before args0 about1) = true := by decide +kernel
set_option maxRecDepth 65536 in
theorem w_t3 : ((words1.drop 24).drop 24).all (fun c => isCode c || c.before args0 about1) = true := by decide +kernel
theorem w_tables : (allAtoms (Jvm.Cond.code x code maxLocals ret :: tables_1)).before args0 about1 = true := by
  rw [allAtoms_all]
  show words1.all (fun c => c.before args0 about1) = true
  refine all_split ?_ w_codes
  rw [← List.take_append_drop 24 words1, List.all_append, w_t1, ← List.take_append_drop 24 (words1.drop 24), List.all_append, w_t2, w_t3]
  rfl
set_option maxRecDepth 65536 in
theorem w_case : (Jvm.Cond.and given_1 narrow_1).before args0 about1 = true := by decide +kernel
theorem w_applies : (headSpec (Jvm.Cond.code x code maxLocals ret :: tables_1) room_1).applies x e0.platform about1 = true :=
  (Spec.applies_iff w_frames).mpr ⟨w_running, w_runnable, w_alone, w_named, w_hears, w_ripe, w_room, w_tables⟩
theorem atStart : AtStart classFile x code maxLocals ret World_1 tables_1 room_1 Calls_1 rest_1 Pre_1 launch0 p0 e0 about1 theMethod args0 below0 :=
  ⟨lists_1, trivial, launch0.admits_env _ _ _, launch0.least_env, fairChoices_fair.cas, fairChoices_fair.clock, w_frames, w_args, w_heap, w_applies, trivial, trivial, w_case⟩
end start1
theorem witness_1 : WitnessClaimed_1 := ⟨start1.p0, start1.e0, start1.about1, start1.theMethod, start1.args0, start1.below0, start1.atStart⟩
end Jvm.Pilot.@@N@@
