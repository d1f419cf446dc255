import JvmDerived
import JvmDerived.Pilot.@@N@@Statement
import JvmDerived.Pilot.@@N@@Code
set_option linter.unusedVariables false
set_option linter.unusedSimpArgs false
namespace Jvm.Pilot.@@N@@
open Jvm Jvm.ClassFile Sem Op Lib Jvm.Free Jvm.Stand Jvm.LawKit Jvm.RoadKit Bundle Jvm.Pilot.@@N@@.Jvm.D
def own_G (p : Program) (e : Env) (below : List Frame) (s : State) (Q : Option Value → Heap → List Loc → Prop) (k n : Nat) (A : State) : Prop :=
  ∃ s₂ o, Steps p.tables e below A s₂ ∧ s₂.status = .running ∧ Ended s₂ below o ∧ ∃ v L, o = .returned v ∧ Q v s₂.heap L ∧ FrameEnd s o s₂ L k n
theorem own_st {p : Program} {e : Env} {below : List Frame} {s : State} {Q : Option Value → Heap → List Loc → Prop} {k n : Nat} {A B : State} (f : ∀ t, Steps p.tables e below B t → Steps p.tables e below A t) (h : own_G p e below s Q k n B) : own_G p e below s Q k n A := by
  obtain ⟨t, o, h1, h2⟩ := h; exact ⟨t, o, f t h1, h2⟩
theorem own_tr {p : Program} {e : Env} {below : List Frame} {s : State} {Q : Option Value → Heap → List Loc → Prop} {k n : Nat} {A B : State} (f : Steps p.tables e below A B) (h : own_G p e below s Q k n B) : own_G p e below s Q k n A := own_st (fun _ => f.trans) h
theorem own_cast {p : Program} {e : Env} {below : List Frame} {s T : State} {Q : Option Value → Heap → List Loc → Prop} {k n : Nat} {g g' : JFrame} (q : g = g') (h : own_G p e below s Q k n (T.setTop g')) : own_G p e below s Q k n (T.setTop g) := q ▸ h
section OwnSteps
variable {p : Program} {l : Launch} {e : Env} {R : Room} {s : State} {m : MethodId} {args : Array Value} {below : List Frame} {meth : Method} {c : Code} {T : State} {locs : List Loc} {cells slots : Nat} {Q : Option Value → Heap → List Loc → Prop} {k n : Nat} {code : ByteArray} {pc : Nat} {Ls : Array Slot} {st : List Value} {Z : State} {a0 : Array Value} {h : Heap}
theorem own_retI (X : Stand p l e R s m args below meth c T locs cells slots) (hx : p.tables.exec = Jvm.exec) (hby : c.code = code) (hlk : meth.locks = false) (hret : meth.sig.returnType = some .int) {z : Int32} (hd : decode code pc = .ok (.ireturn, 1)) (hk : cells ≤ k) (hn : slots ≤ n) (hQ : Q (some (.int z)) T.heap locs) : own_G p e below s Q k n (T.setTop (mkF m pc Ls (.int z :: st))) := by
  obtain ⟨fs, hr, hrun, hended, hW, hsame⟩ := X.leave (v := some (.int z)) (fun h => by rw [hret] at h; cases h) hlk
  exact ⟨_, _, retOut X hx (t := .int) hret rfl (Or.inl ⟨rfl, Or.inl rfl, z, rfl⟩) (hb hby hd) hr, hrun, hended, _, _, rfl, hQ, ⟨_, rfl⟩, hW, hsame.mono hk hn⟩
theorem own_retJ (X : Stand p l e R s m args below meth c T locs cells slots) (hx : p.tables.exec = Jvm.exec) (hby : c.code = code) (hlk : meth.locks = false) (hret : meth.sig.returnType = some .long) {z : Int64} (hd : decode code pc = .ok (.lreturn, 1)) (hk : cells ≤ k) (hn : slots ≤ n) (hQ : Q (some (.long z)) T.heap locs) : own_G p e below s Q k n (T.setTop (mkF m pc Ls (.long z :: st))) := by
  obtain ⟨fs, hr, hrun, hended, hW, hsame⟩ := X.leave (v := some (.long z)) (fun h => by rw [hret] at h; cases h) hlk
  exact ⟨_, _, retOut X hx (t := .long) hret rfl (Or.inr (Or.inl ⟨rfl, rfl, z, rfl⟩)) (hb hby hd) hr, hrun, hended, _, _, rfl, hQ, ⟨_, rfl⟩, hW, hsame.mono hk hn⟩
theorem own_retD (X : Stand p l e R s m args below meth c T locs cells slots) (hx : p.tables.exec = Jvm.exec) (hby : c.code = code) (hlk : meth.locks = false) (hret : meth.sig.returnType = some .double) {z : UInt64} (hd : decode code pc = .ok (.dreturn, 1)) (hk : cells ≤ k) (hn : slots ≤ n) (hQ : Q (some (.double z)) T.heap locs) : own_G p e below s Q k n (T.setTop (mkF m pc Ls (.double z :: st))) := by
  obtain ⟨fs, hr, hrun, hended, hW, hsame⟩ := X.leave (v := some (.double z)) (fun h => by rw [hret] at h; cases h) hlk
  exact ⟨_, _, retOut X hx (t := .double) hret rfl (Or.inr (Or.inr (Or.inl ⟨rfl, rfl, z, rfl⟩))) (hb hby hd) hr, hrun, hended, _, _, rfl, hQ, ⟨_, rfl⟩, hW, hsame.mono hk hn⟩
theorem own_retA (X : Stand p l e R s m args below meth c T locs cells slots) (hx : p.tables.exec = Jvm.exec) (hby : c.code = code) (hlk : meth.locks = false) {ty : FieldType} (hret : meth.sig.returnType = some ty) (hty : ty.isReference = true) {z : Value} (hz : z.isRef = true) (hnz : narrow ty z = z) (hd : decode code pc = .ok (.areturn, 1)) (hk : cells ≤ k) (hn : slots ≤ n) (hQ : Q (some z) T.heap locs) : own_G p e below s Q k n (T.setTop (mkF m pc Ls (z :: st))) := by
  obtain ⟨fs, hr, hrun, hended, hW, hsame⟩ := X.leave (v := some z) (fun h => by rw [hret] at h; cases h) hlk
  exact ⟨_, _, retOut X hx (t := ty) hret hnz (Or.inr (Or.inr (Or.inr (Or.inr ⟨rfl, hty, hz⟩)))) (hb hby hd) hr, hrun, hended, _, _, rfl, hQ, ⟨_, rfl⟩, hW, hsame.mono hk hn⟩
theorem own_retN (X : Stand p l e R s m args below meth c T locs cells slots) (hx : p.tables.exec = Jvm.exec) (hby : c.code = code) (hlk : meth.locks = false) {t : FieldType} (hret : meth.sig.returnType = some t) (ht : t = .boolean ∨ t = .byte ∨ t = .char ∨ t = .short) {z : Int32} (hd : decode code pc = .ok (.ireturn, 1)) (hk : cells ≤ k) (hn : slots ≤ n) (hQ : Q (some (.int (nar t z))) T.heap locs) : own_G p e below s Q k n (T.setTop (mkF m pc Ls (.int z :: st))) := by
  obtain ⟨fs, hr, hrun, hended, hW, hsame⟩ := X.leave (v := some (.int (nar t z))) (fun h => by rw [hret] at h; cases h) hlk
  exact ⟨_, _, retN X hx (t := t) hret ht (hb hby hd) hr, hrun, hended, _, _, rfl, hQ, ⟨_, rfl⟩, hW, hsame.mono hk hn⟩
theorem own_ret0 (X : Stand p l e R s m args below meth c T locs cells slots) (hx : p.tables.exec = Jvm.exec) (hby : c.code = code) (hlk : meth.locks = false) (hret : meth.sig.returnType = none) (hd : decode code pc = .ok (.return_, 1)) (hk : cells ≤ k) (hn : slots ≤ n) (hQ : Q none T.heap locs) : own_G p e below s Q k n (T.setTop (mkF m pc Ls [])) := by
  obtain ⟨fs, hr, hrun, hended, hW, hsame⟩ := X.leave (v := none) (fun _ => rfl) hlk
  exact ⟨_, _, X.returnOut hx hret (hb hby hd) hr, hrun, hended, _, _, rfl, hQ, ⟨_, rfl⟩, hW, hsame.mono hk hn⟩
theorem own_iloadN (X : Stand p l e R s m args below meth c T locs cells slots) (hx : p.tables.exec = Jvm.exec) (hby : c.code = code) {kk : Fin 4} {v : Int32} (hd : decode code pc = .ok (.iload_n kk, 1)) (hl : Ls[kk.val]? = some (.val (.int v))) (h : own_G p e below s Q k n (T.setTop (mkF m (pc + 1) Ls (.int v :: st)))) : own_G p e below s Q k n (T.setTop (mkF m pc Ls st)) := own_st (fun _ => XS.iloadN X.here hx rfl (hb hby hd) hl) h
theorem own_iload (X : Stand p l e R s m args below meth c T locs cells slots) (hx : p.tables.exec = Jvm.exec) (hby : c.code = code) {kk : Nat} {v : Int32} (hd : decode code pc = .ok (.iload kk, 2)) (hl : Ls[kk]? = some (.val (.int v))) (h : own_G p e below s Q k n (T.setTop (mkF m (pc + 2) Ls (.int v :: st)))) : own_G p e below s Q k n (T.setTop (mkF m pc Ls st)) := own_st (fun _ => XS.iload X.here hx rfl (hb hby hd) hl) h
theorem own_lloadN (X : Stand p l e R s m args below meth c T locs cells slots) (hx : p.tables.exec = Jvm.exec) (hby : c.code = code) {kk : Fin 4} {v : Int64} (hd : decode code pc = .ok (.lload_n kk, 1)) (hl : Ls[kk.val]? = some (.val (.long v))) (h : own_G p e below s Q k n (T.setTop (mkF m (pc + 1) Ls (.long v :: st)))) : own_G p e below s Q k n (T.setTop (mkF m pc Ls st)) := own_st (fun _ => XS.lloadN X.here hx rfl (hb hby hd) hl) h
theorem own_lload (X : Stand p l e R s m args below meth c T locs cells slots) (hx : p.tables.exec = Jvm.exec) (hby : c.code = code) {kk : Nat} {v : Int64} (hd : decode code pc = .ok (.lload kk, 2)) (hl : Ls[kk]? = some (.val (.long v))) (h : own_G p e below s Q k n (T.setTop (mkF m (pc + 2) Ls (.long v :: st)))) : own_G p e below s Q k n (T.setTop (mkF m pc Ls st)) := own_st (fun _ => XS.lload X.here hx rfl (hb hby hd) hl) h
theorem own_dloadN (X : Stand p l e R s m args below meth c T locs cells slots) (hx : p.tables.exec = Jvm.exec) (hby : c.code = code) {kk : Fin 4} {v : UInt64} (hd : decode code pc = .ok (.dload_n kk, 1)) (hl : Ls[kk.val]? = some (.val (.double v))) (h : own_G p e below s Q k n (T.setTop (mkF m (pc + 1) Ls (.double v :: st)))) : own_G p e below s Q k n (T.setTop (mkF m pc Ls st)) := own_st (fun _ => XS.dloadN X.here hx rfl (hb hby hd) hl) h
theorem own_dload (X : Stand p l e R s m args below meth c T locs cells slots) (hx : p.tables.exec = Jvm.exec) (hby : c.code = code) {kk : Nat} {v : UInt64} (hd : decode code pc = .ok (.dload kk, 2)) (hl : Ls[kk]? = some (.val (.double v))) (h : own_G p e below s Q k n (T.setTop (mkF m (pc + 2) Ls (.double v :: st)))) : own_G p e below s Q k n (T.setTop (mkF m pc Ls st)) := own_st (fun _ => XS.dload X.here hx rfl (hb hby hd) hl) h
theorem own_aloadN (X : Stand p l e R s m args below meth c T locs cells slots) (hx : p.tables.exec = Jvm.exec) (hby : c.code = code) {kk : Fin 4} {v : Value} (hd : decode code pc = .ok (.aload_n kk, 1)) (hl : Ls[kk.val]? = some (.val v)) (hv : v.isRef = true) (h : own_G p e below s Q k n (T.setTop (mkF m (pc + 1) Ls (v :: st)))) : own_G p e below s Q k n (T.setTop (mkF m pc Ls st)) := own_st (fun _ => XS.aloadN X.here hx rfl (hb hby hd) hl hv) h
theorem own_aload (X : Stand p l e R s m args below meth c T locs cells slots) (hx : p.tables.exec = Jvm.exec) (hby : c.code = code) {kk : Nat} {v : Value} (hd : decode code pc = .ok (.aload kk, 2)) (hl : Ls[kk]? = some (.val v)) (hv : v.isRef = true) (h : own_G p e below s Q k n (T.setTop (mkF m (pc + 2) Ls (v :: st)))) : own_G p e below s Q k n (T.setTop (mkF m pc Ls st)) := own_st (fun _ => XS.aload X.here hx rfl (hb hby hd) hl hv) h
theorem own_istoreN (X : Stand p l e R s m args below meth c T locs cells slots) (hx : p.tables.exec = Jvm.exec) (hby : c.code = code) {kk : Fin 4} {v : Int32} {l' : Array Slot} (hd : decode code pc = .ok (.istore_n kk, 1)) (hl : storeLocals Ls kk.val (.int v) = some l') (h : own_G p e below s Q k n (T.setTop (mkF m (pc + 1) l' st))) : own_G p e below s Q k n (T.setTop (mkF m pc Ls (.int v :: st))) := own_st (fun _ => XS.istoreN X.here hx rfl (hb hby hd) rfl hl) h
theorem own_istore (X : Stand p l e R s m args below meth c T locs cells slots) (hx : p.tables.exec = Jvm.exec) (hby : c.code = code) {kk : Nat} {v : Int32} {l' : Array Slot} (hd : decode code pc = .ok (.istore kk, 2)) (hl : storeLocals Ls kk (.int v) = some l') (h : own_G p e below s Q k n (T.setTop (mkF m (pc + 2) l' st))) : own_G p e below s Q k n (T.setTop (mkF m pc Ls (.int v :: st))) := own_st (fun _ => XS.istore X.here hx rfl (hb hby hd) rfl hl) h
theorem own_lstoreN (X : Stand p l e R s m args below meth c T locs cells slots) (hx : p.tables.exec = Jvm.exec) (hby : c.code = code) {kk : Fin 4} {v : Int64} {l' : Array Slot} (hd : decode code pc = .ok (.lstore_n kk, 1)) (hl : storeLocals Ls kk.val (.long v) = some l') (h : own_G p e below s Q k n (T.setTop (mkF m (pc + 1) l' st))) : own_G p e below s Q k n (T.setTop (mkF m pc Ls (.long v :: st))) := own_st (fun _ => XS.lstoreN X.here hx rfl (hb hby hd) rfl hl) h
theorem own_lstore (X : Stand p l e R s m args below meth c T locs cells slots) (hx : p.tables.exec = Jvm.exec) (hby : c.code = code) {kk : Nat} {v : Int64} {l' : Array Slot} (hd : decode code pc = .ok (.lstore kk, 2)) (hl : storeLocals Ls kk (.long v) = some l') (h : own_G p e below s Q k n (T.setTop (mkF m (pc + 2) l' st))) : own_G p e below s Q k n (T.setTop (mkF m pc Ls (.long v :: st))) := own_st (fun _ => XS.lstore X.here hx rfl (hb hby hd) rfl hl) h
theorem own_dstoreN (X : Stand p l e R s m args below meth c T locs cells slots) (hx : p.tables.exec = Jvm.exec) (hby : c.code = code) {kk : Fin 4} {v : UInt64} {l' : Array Slot} (hd : decode code pc = .ok (.dstore_n kk, 1)) (hl : storeLocals Ls kk.val (.double v) = some l') (h : own_G p e below s Q k n (T.setTop (mkF m (pc + 1) l' st))) : own_G p e below s Q k n (T.setTop (mkF m pc Ls (.double v :: st))) := own_st (fun _ => XS.dstoreN X.here hx rfl (hb hby hd) rfl hl) h
theorem own_dstore (X : Stand p l e R s m args below meth c T locs cells slots) (hx : p.tables.exec = Jvm.exec) (hby : c.code = code) {kk : Nat} {v : UInt64} {l' : Array Slot} (hd : decode code pc = .ok (.dstore kk, 2)) (hl : storeLocals Ls kk (.double v) = some l') (h : own_G p e below s Q k n (T.setTop (mkF m (pc + 2) l' st))) : own_G p e below s Q k n (T.setTop (mkF m pc Ls (.double v :: st))) := own_st (fun _ => XS.dstore X.here hx rfl (hb hby hd) rfl hl) h
theorem own_astoreN (X : Stand p l e R s m args below meth c T locs cells slots) (hx : p.tables.exec = Jvm.exec) (hby : c.code = code) {kk : Fin 4} {v : Value} {l' : Array Slot} (hd : decode code pc = .ok (.astore_n kk, 1)) (hv : v.isRef = true) (hl : storeLocals Ls kk.val v = some l') (h : own_G p e below s Q k n (T.setTop (mkF m (pc + 1) l' st))) : own_G p e below s Q k n (T.setTop (mkF m pc Ls (v :: st))) := own_st (fun _ => XS.astoreN X.here hx rfl (hb hby hd) rfl hv hl) h
theorem own_astore (X : Stand p l e R s m args below meth c T locs cells slots) (hx : p.tables.exec = Jvm.exec) (hby : c.code = code) {kk : Nat} {v : Value} {l' : Array Slot} (hd : decode code pc = .ok (.astore kk, 2)) (hv : v.isRef = true) (hl : storeLocals Ls kk v = some l') (h : own_G p e below s Q k n (T.setTop (mkF m (pc + 2) l' st))) : own_G p e below s Q k n (T.setTop (mkF m pc Ls (v :: st))) := own_st (fun _ => XS.astore X.here hx rfl (hb hby hd) rfl hv hl) h
theorem own_iconst (X : Stand p l e R s m args below meth c T locs cells slots) (hx : p.tables.exec = Jvm.exec) (hby : c.code = code) {i : Int} (hd : decode code pc = .ok (.iconst i, 1))  (h : own_G p e below s Q k n (T.setTop (mkF m (pc + 1) Ls (.int (Int32.ofInt i) :: st)))) : own_G p e below s Q k n (T.setTop (mkF m pc Ls st)) := own_st (fun _ => XS.iconst X.here hx rfl (hb hby hd)) h
theorem own_bipush (X : Stand p l e R s m args below meth c T locs cells slots) (hx : p.tables.exec = Jvm.exec) (hby : c.code = code) {i : Int} (hd : decode code pc = .ok (.bipush i, 2))  (h : own_G p e below s Q k n (T.setTop (mkF m (pc + 2) Ls (.int (Int8.ofInt i).toInt32 :: st)))) : own_G p e below s Q k n (T.setTop (mkF m pc Ls st)) := own_st (fun _ => XS.bipush X.here hx rfl (hb hby hd)) h
theorem own_sipush (X : Stand p l e R s m args below meth c T locs cells slots) (hx : p.tables.exec = Jvm.exec) (hby : c.code = code) {i : Int} (hd : decode code pc = .ok (.sipush i, 3))  (h : own_G p e below s Q k n (T.setTop (mkF m (pc + 3) Ls (.int (Int16.ofInt i).toInt32 :: st)))) : own_G p e below s Q k n (T.setTop (mkF m pc Ls st)) := own_st (fun _ => XS.sipush X.here hx rfl (hb hby hd)) h
theorem own_lconst (X : Stand p l e R s m args below meth c T locs cells slots) (hx : p.tables.exec = Jvm.exec) (hby : c.code = code) {i : Fin 2} (hd : decode code pc = .ok (.lconst i, 1))  (h : own_G p e below s Q k n (T.setTop (mkF m (pc + 1) Ls (.long (Int64.ofNat i) :: st)))) : own_G p e below s Q k n (T.setTop (mkF m pc Ls st)) := own_st (fun _ => XS.lconst X.here hx rfl (hb hby hd)) h
theorem own_aconst_null (X : Stand p l e R s m args below meth c T locs cells slots) (hx : p.tables.exec = Jvm.exec) (hby : c.code = code)  (hd : decode code pc = .ok (.aconst_null, 1))  (h : own_G p e below s Q k n (T.setTop (mkF m (pc + 1) Ls (.null :: st)))) : own_G p e below s Q k n (T.setTop (mkF m pc Ls st)) := own_st (fun _ => XS.aconstNull X.here hx rfl (hb hby hd)) h
theorem own_iadd (X : Stand p l e R s m args below meth c T locs cells slots) (hx : p.tables.exec = Jvm.exec) (hby : c.code = code) {x y : Int32} (hd : decode code pc = .ok (.iadd, 1))  (h : own_G p e below s Q k n (T.setTop (mkF m (pc + 1) Ls (.int (x + y) :: st)))) : own_G p e below s Q k n (T.setTop (mkF m pc Ls (.int y :: .int x :: st))) := own_st (fun _ => XS.iadd X.here hx rfl (hb hby hd) rfl) h
theorem own_isub (X : Stand p l e R s m args below meth c T locs cells slots) (hx : p.tables.exec = Jvm.exec) (hby : c.code = code) {x y : Int32} (hd : decode code pc = .ok (.isub, 1))  (h : own_G p e below s Q k n (T.setTop (mkF m (pc + 1) Ls (.int (x - y) :: st)))) : own_G p e below s Q k n (T.setTop (mkF m pc Ls (.int y :: .int x :: st))) := own_st (fun _ => XS.isub X.here hx rfl (hb hby hd) rfl) h
theorem own_imul (X : Stand p l e R s m args below meth c T locs cells slots) (hx : p.tables.exec = Jvm.exec) (hby : c.code = code) {x y : Int32} (hd : decode code pc = .ok (.imul, 1))  (h : own_G p e below s Q k n (T.setTop (mkF m (pc + 1) Ls (.int (x * y) :: st)))) : own_G p e below s Q k n (T.setTop (mkF m pc Ls (.int y :: .int x :: st))) := own_st (fun _ => XS.imul X.here hx rfl (hb hby hd) rfl) h
theorem own_iand (X : Stand p l e R s m args below meth c T locs cells slots) (hx : p.tables.exec = Jvm.exec) (hby : c.code = code) {x y : Int32} (hd : decode code pc = .ok (.iand, 1))  (h : own_G p e below s Q k n (T.setTop (mkF m (pc + 1) Ls (.int (x &&& y) :: st)))) : own_G p e below s Q k n (T.setTop (mkF m pc Ls (.int y :: .int x :: st))) := own_st (fun _ => XS.iand X.here hx rfl (hb hby hd) rfl) h
theorem own_ior (X : Stand p l e R s m args below meth c T locs cells slots) (hx : p.tables.exec = Jvm.exec) (hby : c.code = code) {x y : Int32} (hd : decode code pc = .ok (.ior, 1))  (h : own_G p e below s Q k n (T.setTop (mkF m (pc + 1) Ls (.int (x ||| y) :: st)))) : own_G p e below s Q k n (T.setTop (mkF m pc Ls (.int y :: .int x :: st))) := own_st (fun _ => XS.ior X.here hx rfl (hb hby hd) rfl) h
theorem own_ixor (X : Stand p l e R s m args below meth c T locs cells slots) (hx : p.tables.exec = Jvm.exec) (hby : c.code = code) {x y : Int32} (hd : decode code pc = .ok (.ixor, 1))  (h : own_G p e below s Q k n (T.setTop (mkF m (pc + 1) Ls (.int (x ^^^ y) :: st)))) : own_G p e below s Q k n (T.setTop (mkF m pc Ls (.int y :: .int x :: st))) := own_st (fun _ => XS.ixor X.here hx rfl (hb hby hd) rfl) h
theorem own_ishl (X : Stand p l e R s m args below meth c T locs cells slots) (hx : p.tables.exec = Jvm.exec) (hby : c.code = code) {x y : Int32} (hd : decode code pc = .ok (.ishl, 1))  (h : own_G p e below s Q k n (T.setTop (mkF m (pc + 1) Ls (.int (x <<< (y &&& 31)) :: st)))) : own_G p e below s Q k n (T.setTop (mkF m pc Ls (.int y :: .int x :: st))) := own_st (fun _ => XS.ishl X.here hx rfl (hb hby hd) rfl) h
theorem own_ishr (X : Stand p l e R s m args below meth c T locs cells slots) (hx : p.tables.exec = Jvm.exec) (hby : c.code = code) {x y : Int32} (hd : decode code pc = .ok (.ishr, 1))  (h : own_G p e below s Q k n (T.setTop (mkF m (pc + 1) Ls (.int (x >>> (y &&& 31)) :: st)))) : own_G p e below s Q k n (T.setTop (mkF m pc Ls (.int y :: .int x :: st))) := own_st (fun _ => XS.ishr X.here hx rfl (hb hby hd) rfl) h
theorem own_iushr (X : Stand p l e R s m args below meth c T locs cells slots) (hx : p.tables.exec = Jvm.exec) (hby : c.code = code) {x y : Int32} (hd : decode code pc = .ok (.iushr, 1))  (h : own_G p e below s Q k n (T.setTop (mkF m (pc + 1) Ls (.int ((x.toUInt32 >>> (y &&& 31).toUInt32).toInt32) :: st)))) : own_G p e below s Q k n (T.setTop (mkF m pc Ls (.int y :: .int x :: st))) := own_st (fun _ => XS.iushr X.here hx rfl (hb hby hd) rfl) h
theorem own_ladd (X : Stand p l e R s m args below meth c T locs cells slots) (hx : p.tables.exec = Jvm.exec) (hby : c.code = code) {x y : Int64} (hd : decode code pc = .ok (.ladd, 1))  (h : own_G p e below s Q k n (T.setTop (mkF m (pc + 1) Ls (.long (x + y) :: st)))) : own_G p e below s Q k n (T.setTop (mkF m pc Ls (.long y :: .long x :: st))) := own_st (fun _ => XS.ladd X.here hx rfl (hb hby hd) rfl) h
theorem own_lsub (X : Stand p l e R s m args below meth c T locs cells slots) (hx : p.tables.exec = Jvm.exec) (hby : c.code = code) {x y : Int64} (hd : decode code pc = .ok (.lsub, 1))  (h : own_G p e below s Q k n (T.setTop (mkF m (pc + 1) Ls (.long (x - y) :: st)))) : own_G p e below s Q k n (T.setTop (mkF m pc Ls (.long y :: .long x :: st))) := own_st (fun _ => XS.lsub X.here hx rfl (hb hby hd) rfl) h
theorem own_lmul (X : Stand p l e R s m args below meth c T locs cells slots) (hx : p.tables.exec = Jvm.exec) (hby : c.code = code) {x y : Int64} (hd : decode code pc = .ok (.lmul, 1))  (h : own_G p e below s Q k n (T.setTop (mkF m (pc + 1) Ls (.long (x * y) :: st)))) : own_G p e below s Q k n (T.setTop (mkF m pc Ls (.long y :: .long x :: st))) := own_st (fun _ => XS.lmul X.here hx rfl (hb hby hd) rfl) h
theorem own_land (X : Stand p l e R s m args below meth c T locs cells slots) (hx : p.tables.exec = Jvm.exec) (hby : c.code = code) {x y : Int64} (hd : decode code pc = .ok (.land, 1))  (h : own_G p e below s Q k n (T.setTop (mkF m (pc + 1) Ls (.long (x &&& y) :: st)))) : own_G p e below s Q k n (T.setTop (mkF m pc Ls (.long y :: .long x :: st))) := own_st (fun _ => XS.land X.here hx rfl (hb hby hd) rfl) h
theorem own_lor (X : Stand p l e R s m args below meth c T locs cells slots) (hx : p.tables.exec = Jvm.exec) (hby : c.code = code) {x y : Int64} (hd : decode code pc = .ok (.lor, 1))  (h : own_G p e below s Q k n (T.setTop (mkF m (pc + 1) Ls (.long (x ||| y) :: st)))) : own_G p e below s Q k n (T.setTop (mkF m pc Ls (.long y :: .long x :: st))) := own_st (fun _ => XS.lor X.here hx rfl (hb hby hd) rfl) h
theorem own_lxor (X : Stand p l e R s m args below meth c T locs cells slots) (hx : p.tables.exec = Jvm.exec) (hby : c.code = code) {x y : Int64} (hd : decode code pc = .ok (.lxor, 1))  (h : own_G p e below s Q k n (T.setTop (mkF m (pc + 1) Ls (.long (x ^^^ y) :: st)))) : own_G p e below s Q k n (T.setTop (mkF m pc Ls (.long y :: .long x :: st))) := own_st (fun _ => XS.lxor X.here hx rfl (hb hby hd) rfl) h
theorem own_lshl (X : Stand p l e R s m args below meth c T locs cells slots) (hx : p.tables.exec = Jvm.exec) (hby : c.code = code) {x : Int64} {y : Int32} (hd : decode code pc = .ok (.lshl, 1))  (h : own_G p e below s Q k n (T.setTop (mkF m (pc + 1) Ls (.long (x <<< (y &&& 0x3f).toInt64) :: st)))) : own_G p e below s Q k n (T.setTop (mkF m pc Ls (.int y :: .long x :: st))) := own_st (fun _ => XS.lshl X.here hx rfl (hb hby hd) rfl) h
theorem own_lshr (X : Stand p l e R s m args below meth c T locs cells slots) (hx : p.tables.exec = Jvm.exec) (hby : c.code = code) {x : Int64} {y : Int32} (hd : decode code pc = .ok (.lshr, 1))  (h : own_G p e below s Q k n (T.setTop (mkF m (pc + 1) Ls (.long (x >>> (y &&& 0x3f).toInt64) :: st)))) : own_G p e below s Q k n (T.setTop (mkF m pc Ls (.int y :: .long x :: st))) := own_st (fun _ => XS.lshr X.here hx rfl (hb hby hd) rfl) h
theorem own_lushr (X : Stand p l e R s m args below meth c T locs cells slots) (hx : p.tables.exec = Jvm.exec) (hby : c.code = code) {x : Int64} {y : Int32} (hd : decode code pc = .ok (.lushr, 1))  (h : own_G p e below s Q k n (T.setTop (mkF m (pc + 1) Ls (.long ((x.toUInt64 >>> (y &&& 0x3f).toInt64.toUInt64).toInt64) :: st)))) : own_G p e below s Q k n (T.setTop (mkF m pc Ls (.int y :: .long x :: st))) := own_st (fun _ => XS.lushr X.here hx rfl (hb hby hd) rfl) h
theorem own_idiv (X : Stand p l e R s m args below meth c T locs cells slots) (hx : p.tables.exec = Jvm.exec) (hby : c.code = code) {x y : Int32} (hd : decode code pc = .ok (.idiv, 1)) (hy : y ≠ 0) (h : own_G p e below s Q k n (T.setTop (mkF m (pc + 1) Ls (.int (x / y) :: st)))) : own_G p e below s Q k n (T.setTop (mkF m pc Ls (.int y :: .int x :: st))) := own_st (fun _ => XS.idiv X.here hx rfl (hb hby hd) rfl hy) h
theorem own_irem (X : Stand p l e R s m args below meth c T locs cells slots) (hx : p.tables.exec = Jvm.exec) (hby : c.code = code) {x y : Int32} (hd : decode code pc = .ok (.irem, 1)) (hy : y ≠ 0) (h : own_G p e below s Q k n (T.setTop (mkF m (pc + 1) Ls (.int (x % y) :: st)))) : own_G p e below s Q k n (T.setTop (mkF m pc Ls (.int y :: .int x :: st))) := own_st (fun _ => iremM X hx rfl (hb hby hd) rfl hy) h
theorem own_ldiv (X : Stand p l e R s m args below meth c T locs cells slots) (hx : p.tables.exec = Jvm.exec) (hby : c.code = code) {x y : Int64} (hd : decode code pc = .ok (.ldiv, 1)) (hy : y ≠ 0) (h : own_G p e below s Q k n (T.setTop (mkF m (pc + 1) Ls (.long (x / y) :: st)))) : own_G p e below s Q k n (T.setTop (mkF m pc Ls (.long y :: .long x :: st))) := own_st (fun _ => XS.ldiv X.here hx rfl (hb hby hd) rfl hy) h
theorem own_lrem (X : Stand p l e R s m args below meth c T locs cells slots) (hx : p.tables.exec = Jvm.exec) (hby : c.code = code) {x y : Int64} (hd : decode code pc = .ok (.lrem, 1)) (hy : y ≠ 0) (h : own_G p e below s Q k n (T.setTop (mkF m (pc + 1) Ls (.long (x % y) :: st)))) : own_G p e below s Q k n (T.setTop (mkF m pc Ls (.long y :: .long x :: st))) := own_st (fun _ hr => XS.lrem X.here hx rfl (hb hby hd) rfl hy (by rw [lrem_mod]; exact hr)) h
theorem own_ineg (X : Stand p l e R s m args below meth c T locs cells slots) (hx : p.tables.exec = Jvm.exec) (hby : c.code = code) {x : Int32} (hd : decode code pc = .ok (.ineg, 1))  (h : own_G p e below s Q k n (T.setTop (mkF m (pc + 1) Ls (.int (-x) :: st)))) : own_G p e below s Q k n (T.setTop (mkF m pc Ls (.int x :: st))) := own_st (fun _ => XS.ineg X.here hx rfl (hb hby hd) rfl) h
theorem own_lneg (X : Stand p l e R s m args below meth c T locs cells slots) (hx : p.tables.exec = Jvm.exec) (hby : c.code = code) {x : Int64} (hd : decode code pc = .ok (.lneg, 1))  (h : own_G p e below s Q k n (T.setTop (mkF m (pc + 1) Ls (.long (-x) :: st)))) : own_G p e below s Q k n (T.setTop (mkF m pc Ls (.long x :: st))) := own_st (fun _ => XS.lneg X.here hx rfl (hb hby hd) rfl) h
theorem own_i2l (X : Stand p l e R s m args below meth c T locs cells slots) (hx : p.tables.exec = Jvm.exec) (hby : c.code = code) {x : Int32} (hd : decode code pc = .ok (.i2l, 1))  (h : own_G p e below s Q k n (T.setTop (mkF m (pc + 1) Ls (.long (x.toInt64) :: st)))) : own_G p e below s Q k n (T.setTop (mkF m pc Ls (.int x :: st))) := own_st (fun _ => XS.i2l X.here hx rfl (hb hby hd) rfl) h
theorem own_l2i (X : Stand p l e R s m args below meth c T locs cells slots) (hx : p.tables.exec = Jvm.exec) (hby : c.code = code) {x : Int64} (hd : decode code pc = .ok (.l2i, 1))  (h : own_G p e below s Q k n (T.setTop (mkF m (pc + 1) Ls (.int (x.toInt32) :: st)))) : own_G p e below s Q k n (T.setTop (mkF m pc Ls (.long x :: st))) := own_st (fun _ => XS.l2i X.here hx rfl (hb hby hd) rfl) h
theorem own_i2b (X : Stand p l e R s m args below meth c T locs cells slots) (hx : p.tables.exec = Jvm.exec) (hby : c.code = code) {x : Int32} (hd : decode code pc = .ok (.i2b, 1))  (h : own_G p e below s Q k n (T.setTop (mkF m (pc + 1) Ls (.int (x.toInt8.toInt32) :: st)))) : own_G p e below s Q k n (T.setTop (mkF m pc Ls (.int x :: st))) := own_st (fun _ => XS.i2b X.here hx rfl (hb hby hd) rfl) h
theorem own_i2s (X : Stand p l e R s m args below meth c T locs cells slots) (hx : p.tables.exec = Jvm.exec) (hby : c.code = code) {x : Int32} (hd : decode code pc = .ok (.i2s, 1))  (h : own_G p e below s Q k n (T.setTop (mkF m (pc + 1) Ls (.int (x.toInt16.toInt32) :: st)))) : own_G p e below s Q k n (T.setTop (mkF m pc Ls (.int x :: st))) := own_st (fun _ => XS.i2s X.here hx rfl (hb hby hd) rfl) h
theorem own_i2c (X : Stand p l e R s m args below meth c T locs cells slots) (hx : p.tables.exec = Jvm.exec) (hby : c.code = code) {x : Int32} (hd : decode code pc = .ok (.i2c, 1))  (h : own_G p e below s Q k n (T.setTop (mkF m (pc + 1) Ls (.int (x.toUInt32.toUInt16.toUInt32.toInt32) :: st)))) : own_G p e below s Q k n (T.setTop (mkF m pc Ls (.int x :: st))) := own_st (fun _ => XS.i2c X.here hx rfl (hb hby hd) rfl) h
theorem own_dup (X : Stand p l e R s m args below meth c T locs cells slots) (hx : p.tables.exec = Jvm.exec) (hby : c.code = code) {v : Value} (hd : decode code pc = .ok (.dup, 1)) (hc : v.category = 1) (h : own_G p e below s Q k n (T.setTop (mkF m (pc + 1) Ls (v :: v :: st)))) : own_G p e below s Q k n (T.setTop (mkF m pc Ls (v :: st))) := own_st (fun _ => XS.dup X.here hx rfl (hb hby hd) rfl hc) h
theorem own_dup_x1 (X : Stand p l e R s m args below meth c T locs cells slots) (hx : p.tables.exec = Jvm.exec) (hby : c.code = code) {v w : Value} (hd : decode code pc = .ok (.dup_x1, 1)) (hc : v.category = 1) (hc' : w.category = 1) (h : own_G p e below s Q k n (T.setTop (mkF m (pc + 1) Ls (v :: w :: v :: st)))) : own_G p e below s Q k n (T.setTop (mkF m pc Ls (v :: w :: st))) := own_st (fun _ => XS.dupX1 X.here hx rfl (hb hby hd) rfl hc hc') h
theorem own_dup2 (X : Stand p l e R s m args below meth c T locs cells slots) (hx : p.tables.exec = Jvm.exec) (hby : c.code = code) {v w : Value} (hd : decode code pc = .ok (.dup2, 1)) (hc : v.category = 1) (hc' : w.category = 1) (h : own_G p e below s Q k n (T.setTop (mkF m (pc + 1) Ls (v :: w :: v :: w :: st)))) : own_G p e below s Q k n (T.setTop (mkF m pc Ls (v :: w :: st))) := own_st (fun _ => Jvm.Free.XT.dup2 X.here hx rfl (hb hby hd) rfl hc hc') h
theorem own_dup2L (X : Stand p l e R s m args below meth c T locs cells slots) (hx : p.tables.exec = Jvm.exec) (hby : c.code = code) {v : Int64} (hd : decode code pc = .ok (.dup2, 1))  (h : own_G p e below s Q k n (T.setTop (mkF m (pc + 1) Ls (.long v :: .long v :: st)))) : own_G p e below s Q k n (T.setTop (mkF m pc Ls (.long v :: st))) := own_st (fun _ => Jvm.Free.XT.dup2L X.here hx rfl (hb hby hd) rfl) h
theorem own_pop (X : Stand p l e R s m args below meth c T locs cells slots) (hx : p.tables.exec = Jvm.exec) (hby : c.code = code) {v : Value} (hd : decode code pc = .ok (.pop, 1)) (hc : v.category = 1) (h : own_G p e below s Q k n (T.setTop (mkF m (pc + 1) Ls st))) : own_G p e below s Q k n (T.setTop (mkF m pc Ls (v :: st))) := own_st (fun _ => XS.pop X.here hx rfl (hb hby hd) rfl hc) h
theorem own_iinc (X : Stand p l e R s m args below meth c T locs cells slots) (hx : p.tables.exec = Jvm.exec) (hby : c.code = code) {kk : Nat} {cst : Int} {x : Int32} {l' : Array Slot} (hd : decode code pc = .ok (.iinc kk cst, 3)) (hl : Ls[kk]? = some (.val (.int x))) (hl' : storeLocals Ls kk (.int (x + Int32.ofInt cst)) = some l') (h : own_G p e below s Q k n (T.setTop (mkF m (pc + 3) l' st))) : own_G p e below s Q k n (T.setTop (mkF m pc Ls st)) := own_st (fun _ => XS.iinc X.here hx rfl (hb hby hd) hl hl') h
theorem own_goto (X : Stand p l e R s m args below meth c T locs cells slots) (hx : p.tables.exec = Jvm.exec) (hby : c.code = code) {o : Int} {pc' : Nat} (hd : decode code pc = .ok (.goto o, 3)) (ho : 0 ≤ (pc : Int) + o) (hp : ((pc : Int) + o).toNat = pc') (h : own_G p e below s Q k n (T.setTop (mkF m pc' Ls st))) : own_G p e below s Q k n (T.setTop (mkF m pc Ls st)) := own_st (fun _ => XS.goto X.here hx rfl rfl (hb hby hd) ho hp) h
theorem own_icmp_eq (X : Stand p l e R s m args below meth c T locs cells slots) (hx : p.tables.exec = Jvm.exec) (hby : c.code = code) {x y : Int32} {o : Int} {pc' : Nat} (hd : decode code pc = .ok (.if_icmp .eq o, 3)) (ho : 0 ≤ (pc : Int) + o) (hp : ((pc : Int) + o).toNat = pc') (hY : x = y → own_G p e below s Q k n (T.setTop (mkF m pc' Ls st))) (hN : ¬ x = y → own_G p e below s Q k n (T.setTop (mkF m (pc + 3) Ls st))) : own_G p e below s Q k n (T.setTop (mkF m pc Ls (.int y :: .int x :: st))) := by
  by_cases q : x = y
  · exact own_st (fun _ => XS.icmpYes X.here hx rfl rfl (hb hby hd) rfl (teq q).1 ho hp) (hY q)
  · exact own_st (fun _ => XS.icmpNo X.here hx rfl (hb hby hd) rfl (feq q).1) (hN q)
theorem own_if_eq (X : Stand p l e R s m args below meth c T locs cells slots) (hx : p.tables.exec = Jvm.exec) (hby : c.code = code) {x : Int32} {o : Int} {pc' : Nat} (hd : decode code pc = .ok (.ifCond .eq o, 3)) (ho : 0 ≤ (pc : Int) + o) (hp : ((pc : Int) + o).toNat = pc') (hY : x = 0 → own_G p e below s Q k n (T.setTop (mkF m pc' Ls st))) (hN : ¬ x = 0 → own_G p e below s Q k n (T.setTop (mkF m (pc + 3) Ls st))) : own_G p e below s Q k n (T.setTop (mkF m pc Ls (.int x :: st))) := by
  by_cases q : x = 0
  · exact own_st (fun _ => XS.ifYes X.here hx rfl rfl (hb hby hd) rfl ((if0 _ _).trans (teq q).1) ho hp) (hY q)
  · exact own_st (fun _ => XS.ifNo X.here hx rfl (hb hby hd) rfl ((if0 _ _).trans (feq q).1)) (hN q)
theorem own_lcmp_eq (X : Stand p l e R s m args below meth c T locs cells slots) (hx : p.tables.exec = Jvm.exec) (hby : c.code = code) {x y : Int64} {o : Int} {pc' : Nat} (hd : decode code pc = .ok (.lcmp, 1)) (hd2 : decode code (pc + 1) = .ok (.ifCond .eq o, 3)) (ho : 0 ≤ ((pc + 1 : Nat) : Int) + o) (hp : (((pc + 1 : Nat) : Int) + o).toNat = pc') (hY : x = y → own_G p e below s Q k n (T.setTop (mkF m pc' Ls st))) (hN : ¬ x = y → own_G p e below s Q k n (T.setTop (mkF m (pc + 4) Ls st))) : own_G p e below s Q k n (T.setTop (mkF m pc Ls (.long y :: .long x :: st))) := by
  refine own_st (fun _ => XS.lcmp X.here hx rfl (hb hby hd) rfl) ?_
  exact own_if_eq (x := lcmpW x y) X hx hby hd2 ho hp (fun q => hY ((lw_eq x y).mp q)) (fun q => hN (fun z => q ((lw_eq x y).mpr z)))
theorem own_icmp_ne (X : Stand p l e R s m args below meth c T locs cells slots) (hx : p.tables.exec = Jvm.exec) (hby : c.code = code) {x y : Int32} {o : Int} {pc' : Nat} (hd : decode code pc = .ok (.if_icmp .ne o, 3)) (ho : 0 ≤ (pc : Int) + o) (hp : ((pc : Int) + o).toNat = pc') (hY : ¬ x = y → own_G p e below s Q k n (T.setTop (mkF m pc' Ls st))) (hN : x = y → own_G p e below s Q k n (T.setTop (mkF m (pc + 3) Ls st))) : own_G p e below s Q k n (T.setTop (mkF m pc Ls (.int y :: .int x :: st))) := by
  by_cases q : x = y
  · exact own_st (fun _ => XS.icmpNo X.here hx rfl (hb hby hd) rfl (teq q).2) (hN q)
  · exact own_st (fun _ => XS.icmpYes X.here hx rfl rfl (hb hby hd) rfl (feq q).2 ho hp) (hY q)
theorem own_if_ne (X : Stand p l e R s m args below meth c T locs cells slots) (hx : p.tables.exec = Jvm.exec) (hby : c.code = code) {x : Int32} {o : Int} {pc' : Nat} (hd : decode code pc = .ok (.ifCond .ne o, 3)) (ho : 0 ≤ (pc : Int) + o) (hp : ((pc : Int) + o).toNat = pc') (hY : ¬ x = 0 → own_G p e below s Q k n (T.setTop (mkF m pc' Ls st))) (hN : x = 0 → own_G p e below s Q k n (T.setTop (mkF m (pc + 3) Ls st))) : own_G p e below s Q k n (T.setTop (mkF m pc Ls (.int x :: st))) := by
  by_cases q : x = 0
  · exact own_st (fun _ => XS.ifNo X.here hx rfl (hb hby hd) rfl ((if0 _ _).trans (teq q).2)) (hN q)
  · exact own_st (fun _ => XS.ifYes X.here hx rfl rfl (hb hby hd) rfl ((if0 _ _).trans (feq q).2) ho hp) (hY q)
theorem own_lcmp_ne (X : Stand p l e R s m args below meth c T locs cells slots) (hx : p.tables.exec = Jvm.exec) (hby : c.code = code) {x y : Int64} {o : Int} {pc' : Nat} (hd : decode code pc = .ok (.lcmp, 1)) (hd2 : decode code (pc + 1) = .ok (.ifCond .ne o, 3)) (ho : 0 ≤ ((pc + 1 : Nat) : Int) + o) (hp : (((pc + 1 : Nat) : Int) + o).toNat = pc') (hY : ¬ x = y → own_G p e below s Q k n (T.setTop (mkF m pc' Ls st))) (hN : x = y → own_G p e below s Q k n (T.setTop (mkF m (pc + 4) Ls st))) : own_G p e below s Q k n (T.setTop (mkF m pc Ls (.long y :: .long x :: st))) := by
  refine own_st (fun _ => XS.lcmp X.here hx rfl (hb hby hd) rfl) ?_
  exact own_if_ne (x := lcmpW x y) X hx hby hd2 ho hp (fun q => hY (fun z => q ((lw_eq x y).mpr z))) (fun q => hN ((lw_eq x y).mp q))
theorem own_icmp_lt (X : Stand p l e R s m args below meth c T locs cells slots) (hx : p.tables.exec = Jvm.exec) (hby : c.code = code) {x y : Int32} {o : Int} {pc' : Nat} (hd : decode code pc = .ok (.if_icmp .lt o, 3)) (ho : 0 ≤ (pc : Int) + o) (hp : ((pc : Int) + o).toNat = pc') (hY : x < y → own_G p e below s Q k n (T.setTop (mkF m pc' Ls st))) (hN : ¬ x < y → own_G p e below s Q k n (T.setTop (mkF m (pc + 3) Ls st))) : own_G p e below s Q k n (T.setTop (mkF m pc Ls (.int y :: .int x :: st))) := by
  by_cases q : x < y
  · exact own_st (fun _ => XS.icmpYes X.here hx rfl rfl (hb hby hd) rfl (tlt q).1 ho hp) (hY q)
  · exact own_st (fun _ => XS.icmpNo X.here hx rfl (hb hby hd) rfl (flt q).1) (hN q)
theorem own_if_lt (X : Stand p l e R s m args below meth c T locs cells slots) (hx : p.tables.exec = Jvm.exec) (hby : c.code = code) {x : Int32} {o : Int} {pc' : Nat} (hd : decode code pc = .ok (.ifCond .lt o, 3)) (ho : 0 ≤ (pc : Int) + o) (hp : ((pc : Int) + o).toNat = pc') (hY : x < 0 → own_G p e below s Q k n (T.setTop (mkF m pc' Ls st))) (hN : ¬ x < 0 → own_G p e below s Q k n (T.setTop (mkF m (pc + 3) Ls st))) : own_G p e below s Q k n (T.setTop (mkF m pc Ls (.int x :: st))) := by
  by_cases q : x < 0
  · exact own_st (fun _ => XS.ifYes X.here hx rfl rfl (hb hby hd) rfl ((if0 _ _).trans (tlt q).1) ho hp) (hY q)
  · exact own_st (fun _ => XS.ifNo X.here hx rfl (hb hby hd) rfl ((if0 _ _).trans (flt q).1)) (hN q)
theorem own_lcmp_lt (X : Stand p l e R s m args below meth c T locs cells slots) (hx : p.tables.exec = Jvm.exec) (hby : c.code = code) {x y : Int64} {o : Int} {pc' : Nat} (hd : decode code pc = .ok (.lcmp, 1)) (hd2 : decode code (pc + 1) = .ok (.ifCond .lt o, 3)) (ho : 0 ≤ ((pc + 1 : Nat) : Int) + o) (hp : (((pc + 1 : Nat) : Int) + o).toNat = pc') (hY : x < y → own_G p e below s Q k n (T.setTop (mkF m pc' Ls st))) (hN : ¬ x < y → own_G p e below s Q k n (T.setTop (mkF m (pc + 4) Ls st))) : own_G p e below s Q k n (T.setTop (mkF m pc Ls (.long y :: .long x :: st))) := by
  refine own_st (fun _ => XS.lcmp X.here hx rfl (hb hby hd) rfl) ?_
  exact own_if_lt (x := lcmpW x y) X hx hby hd2 ho hp (fun q => hY ((lw_lt x y).mp q)) (fun q => hN (fun z => q ((lw_lt x y).mpr z)))
theorem own_icmp_ge (X : Stand p l e R s m args below meth c T locs cells slots) (hx : p.tables.exec = Jvm.exec) (hby : c.code = code) {x y : Int32} {o : Int} {pc' : Nat} (hd : decode code pc = .ok (.if_icmp .ge o, 3)) (ho : 0 ≤ (pc : Int) + o) (hp : ((pc : Int) + o).toNat = pc') (hY : ¬ x < y → own_G p e below s Q k n (T.setTop (mkF m pc' Ls st))) (hN : x < y → own_G p e below s Q k n (T.setTop (mkF m (pc + 3) Ls st))) : own_G p e below s Q k n (T.setTop (mkF m pc Ls (.int y :: .int x :: st))) := by
  by_cases q : x < y
  · exact own_st (fun _ => XS.icmpNo X.here hx rfl (hb hby hd) rfl (tlt q).2.1) (hN q)
  · exact own_st (fun _ => XS.icmpYes X.here hx rfl rfl (hb hby hd) rfl (flt q).2.1 ho hp) (hY q)
theorem own_if_ge (X : Stand p l e R s m args below meth c T locs cells slots) (hx : p.tables.exec = Jvm.exec) (hby : c.code = code) {x : Int32} {o : Int} {pc' : Nat} (hd : decode code pc = .ok (.ifCond .ge o, 3)) (ho : 0 ≤ (pc : Int) + o) (hp : ((pc : Int) + o).toNat = pc') (hY : ¬ x < 0 → own_G p e below s Q k n (T.setTop (mkF m pc' Ls st))) (hN : x < 0 → own_G p e below s Q k n (T.setTop (mkF m (pc + 3) Ls st))) : own_G p e below s Q k n (T.setTop (mkF m pc Ls (.int x :: st))) := by
  by_cases q : x < 0
  · exact own_st (fun _ => XS.ifNo X.here hx rfl (hb hby hd) rfl ((if0 _ _).trans (tlt q).2.1)) (hN q)
  · exact own_st (fun _ => XS.ifYes X.here hx rfl rfl (hb hby hd) rfl ((if0 _ _).trans (flt q).2.1) ho hp) (hY q)
theorem own_lcmp_ge (X : Stand p l e R s m args below meth c T locs cells slots) (hx : p.tables.exec = Jvm.exec) (hby : c.code = code) {x y : Int64} {o : Int} {pc' : Nat} (hd : decode code pc = .ok (.lcmp, 1)) (hd2 : decode code (pc + 1) = .ok (.ifCond .ge o, 3)) (ho : 0 ≤ ((pc + 1 : Nat) : Int) + o) (hp : (((pc + 1 : Nat) : Int) + o).toNat = pc') (hY : ¬ x < y → own_G p e below s Q k n (T.setTop (mkF m pc' Ls st))) (hN : x < y → own_G p e below s Q k n (T.setTop (mkF m (pc + 4) Ls st))) : own_G p e below s Q k n (T.setTop (mkF m pc Ls (.long y :: .long x :: st))) := by
  refine own_st (fun _ => XS.lcmp X.here hx rfl (hb hby hd) rfl) ?_
  exact own_if_ge (x := lcmpW x y) X hx hby hd2 ho hp (fun q => hY (fun z => q ((lw_lt x y).mpr z))) (fun q => hN ((lw_lt x y).mp q))
theorem own_icmp_gt (X : Stand p l e R s m args below meth c T locs cells slots) (hx : p.tables.exec = Jvm.exec) (hby : c.code = code) {x y : Int32} {o : Int} {pc' : Nat} (hd : decode code pc = .ok (.if_icmp .gt o, 3)) (ho : 0 ≤ (pc : Int) + o) (hp : ((pc : Int) + o).toNat = pc') (hY : y < x → own_G p e below s Q k n (T.setTop (mkF m pc' Ls st))) (hN : ¬ y < x → own_G p e below s Q k n (T.setTop (mkF m (pc + 3) Ls st))) : own_G p e below s Q k n (T.setTop (mkF m pc Ls (.int y :: .int x :: st))) := by
  by_cases q : y < x
  · exact own_st (fun _ => XS.icmpYes X.here hx rfl rfl (hb hby hd) rfl (tlt q).2.2.1 ho hp) (hY q)
  · exact own_st (fun _ => XS.icmpNo X.here hx rfl (hb hby hd) rfl (flt q).2.2.1) (hN q)
theorem own_if_gt (X : Stand p l e R s m args below meth c T locs cells slots) (hx : p.tables.exec = Jvm.exec) (hby : c.code = code) {x : Int32} {o : Int} {pc' : Nat} (hd : decode code pc = .ok (.ifCond .gt o, 3)) (ho : 0 ≤ (pc : Int) + o) (hp : ((pc : Int) + o).toNat = pc') (hY : 0 < x → own_G p e below s Q k n (T.setTop (mkF m pc' Ls st))) (hN : ¬ 0 < x → own_G p e below s Q k n (T.setTop (mkF m (pc + 3) Ls st))) : own_G p e below s Q k n (T.setTop (mkF m pc Ls (.int x :: st))) := by
  by_cases q : 0 < x
  · exact own_st (fun _ => XS.ifYes X.here hx rfl rfl (hb hby hd) rfl ((if0 _ _).trans (tlt q).2.2.1) ho hp) (hY q)
  · exact own_st (fun _ => XS.ifNo X.here hx rfl (hb hby hd) rfl ((if0 _ _).trans (flt q).2.2.1)) (hN q)
theorem own_lcmp_gt (X : Stand p l e R s m args below meth c T locs cells slots) (hx : p.tables.exec = Jvm.exec) (hby : c.code = code) {x y : Int64} {o : Int} {pc' : Nat} (hd : decode code pc = .ok (.lcmp, 1)) (hd2 : decode code (pc + 1) = .ok (.ifCond .gt o, 3)) (ho : 0 ≤ ((pc + 1 : Nat) : Int) + o) (hp : (((pc + 1 : Nat) : Int) + o).toNat = pc') (hY : y < x → own_G p e below s Q k n (T.setTop (mkF m pc' Ls st))) (hN : ¬ y < x → own_G p e below s Q k n (T.setTop (mkF m (pc + 4) Ls st))) : own_G p e below s Q k n (T.setTop (mkF m pc Ls (.long y :: .long x :: st))) := by
  refine own_st (fun _ => XS.lcmp X.here hx rfl (hb hby hd) rfl) ?_
  exact own_if_gt (x := lcmpW x y) X hx hby hd2 ho hp (fun q => hY ((lw_gt x y).mp q)) (fun q => hN (fun z => q ((lw_gt x y).mpr z)))
theorem own_icmp_le (X : Stand p l e R s m args below meth c T locs cells slots) (hx : p.tables.exec = Jvm.exec) (hby : c.code = code) {x y : Int32} {o : Int} {pc' : Nat} (hd : decode code pc = .ok (.if_icmp .le o, 3)) (ho : 0 ≤ (pc : Int) + o) (hp : ((pc : Int) + o).toNat = pc') (hY : ¬ y < x → own_G p e below s Q k n (T.setTop (mkF m pc' Ls st))) (hN : y < x → own_G p e below s Q k n (T.setTop (mkF m (pc + 3) Ls st))) : own_G p e below s Q k n (T.setTop (mkF m pc Ls (.int y :: .int x :: st))) := by
  by_cases q : y < x
  · exact own_st (fun _ => XS.icmpNo X.here hx rfl (hb hby hd) rfl (tlt q).2.2.2) (hN q)
  · exact own_st (fun _ => XS.icmpYes X.here hx rfl rfl (hb hby hd) rfl (flt q).2.2.2 ho hp) (hY q)
theorem own_if_le (X : Stand p l e R s m args below meth c T locs cells slots) (hx : p.tables.exec = Jvm.exec) (hby : c.code = code) {x : Int32} {o : Int} {pc' : Nat} (hd : decode code pc = .ok (.ifCond .le o, 3)) (ho : 0 ≤ (pc : Int) + o) (hp : ((pc : Int) + o).toNat = pc') (hY : ¬ 0 < x → own_G p e below s Q k n (T.setTop (mkF m pc' Ls st))) (hN : 0 < x → own_G p e below s Q k n (T.setTop (mkF m (pc + 3) Ls st))) : own_G p e below s Q k n (T.setTop (mkF m pc Ls (.int x :: st))) := by
  by_cases q : 0 < x
  · exact own_st (fun _ => XS.ifNo X.here hx rfl (hb hby hd) rfl ((if0 _ _).trans (tlt q).2.2.2)) (hN q)
  · exact own_st (fun _ => XS.ifYes X.here hx rfl rfl (hb hby hd) rfl ((if0 _ _).trans (flt q).2.2.2) ho hp) (hY q)
theorem own_lcmp_le (X : Stand p l e R s m args below meth c T locs cells slots) (hx : p.tables.exec = Jvm.exec) (hby : c.code = code) {x y : Int64} {o : Int} {pc' : Nat} (hd : decode code pc = .ok (.lcmp, 1)) (hd2 : decode code (pc + 1) = .ok (.ifCond .le o, 3)) (ho : 0 ≤ ((pc + 1 : Nat) : Int) + o) (hp : (((pc + 1 : Nat) : Int) + o).toNat = pc') (hY : ¬ y < x → own_G p e below s Q k n (T.setTop (mkF m pc' Ls st))) (hN : y < x → own_G p e below s Q k n (T.setTop (mkF m (pc + 4) Ls st))) : own_G p e below s Q k n (T.setTop (mkF m pc Ls (.long y :: .long x :: st))) := by
  refine own_st (fun _ => XS.lcmp X.here hx rfl (hb hby hd) rfl) ?_
  exact own_if_le (x := lcmpW x y) X hx hby hd2 ho hp (fun q => hY (fun z => q ((lw_gt x y).mpr z))) (fun q => hN ((lw_gt x y).mp q))
theorem own_acmp_eq (X : Stand p l e R s m args below meth c T locs cells slots) (hx : p.tables.exec = Jvm.exec) (hby : c.code = code) {x y : Value} {o : Int} {pc' : Nat} (hx1 : x.isRef = true) (hy1 : y.isRef = true) (hd : decode code pc = .ok (.if_acmp .eq o, 3)) (ho : 0 ≤ (pc : Int) + o) (hp : ((pc : Int) + o).toNat = pc') (hY : x = y → own_G p e below s Q k n (T.setTop (mkF m pc' Ls st))) (hN : ¬ x = y → own_G p e below s Q k n (T.setTop (mkF m (pc + 3) Ls st))) : own_G p e below s Q k n (T.setTop (mkF m pc Ls (y :: x :: st))) := by
  by_cases q : x = y
  · exact own_st (fun _ => Jvm.Free.XT.acmpYes X.here hx rfl rfl (hb hby hd) rfl hx1 hy1 (decide_eq_true q) ho hp) (hY q)
  · exact own_st (fun _ => Jvm.Free.XT.acmpNo X.here hx rfl (hb hby hd) rfl hx1 hy1 (decide_eq_false q)) (hN q)
theorem own_acmp_ne (X : Stand p l e R s m args below meth c T locs cells slots) (hx : p.tables.exec = Jvm.exec) (hby : c.code = code) {x y : Value} {o : Int} {pc' : Nat} (hx1 : x.isRef = true) (hy1 : y.isRef = true) (hd : decode code pc = .ok (.if_acmp .ne o, 3)) (ho : 0 ≤ (pc : Int) + o) (hp : ((pc : Int) + o).toNat = pc') (hY : ¬ x = y → own_G p e below s Q k n (T.setTop (mkF m pc' Ls st))) (hN : x = y → own_G p e below s Q k n (T.setTop (mkF m (pc + 3) Ls st))) : own_G p e below s Q k n (T.setTop (mkF m pc Ls (y :: x :: st))) := by
  by_cases q : x = y
  · exact own_st (fun _ => Jvm.Free.XT.acmpNo X.here hx rfl (hb hby hd) rfl hx1 hy1 (decide_eq_false (fun z => z q))) (hN q)
  · exact own_st (fun _ => Jvm.Free.XT.acmpYes X.here hx rfl rfl (hb hby hd) rfl hx1 hy1 (decide_eq_true q) ho hp) (hY q)
theorem own_ifnullY (X : Stand p l e R s m args below meth c T locs cells slots) (hx : p.tables.exec = Jvm.exec) (hby : c.code = code) {o : Int} {pc' : Nat} (hd : decode code pc = .ok (.ifnull o, 3)) (ho : 0 ≤ (pc : Int) + o) (hp : ((pc : Int) + o).toNat = pc') (h : own_G p e below s Q k n (T.setTop (mkF m pc' Ls st))) : own_G p e below s Q k n (T.setTop (mkF m pc Ls (.null :: st))) := own_st (fun _ => XS.ifnullYes X.here hx rfl rfl (hb hby hd) rfl ho hp) h
theorem own_ifnullN (X : Stand p l e R s m args below meth c T locs cells slots) (hx : p.tables.exec = Jvm.exec) (hby : c.code = code) {o : Int} {b : Addr} (hd : decode code pc = .ok (.ifnull o, 3)) (h : own_G p e below s Q k n (T.setTop (mkF m (pc + 3) Ls st))) : own_G p e below s Q k n (T.setTop (mkF m pc Ls (.ref b :: st))) := own_st (fun _ => XS.ifnullNo X.here hx rfl (hb hby hd) rfl) h
theorem own_ifnonnullY (X : Stand p l e R s m args below meth c T locs cells slots) (hx : p.tables.exec = Jvm.exec) (hby : c.code = code) {o : Int} {b : Addr} {pc' : Nat} (hd : decode code pc = .ok (.ifnonnull o, 3)) (ho : 0 ≤ (pc : Int) + o) (hp : ((pc : Int) + o).toNat = pc') (h : own_G p e below s Q k n (T.setTop (mkF m pc' Ls st))) : own_G p e below s Q k n (T.setTop (mkF m pc Ls (.ref b :: st))) := own_st (fun _ => XS.ifnonnullYes X.here hx rfl rfl (hb hby hd) rfl ho hp) h
theorem own_ifnonnullN (X : Stand p l e R s m args below meth c T locs cells slots) (hx : p.tables.exec = Jvm.exec) (hby : c.code = code) {o : Int} (hd : decode code pc = .ok (.ifnonnull o, 3)) (h : own_G p e below s Q k n (T.setTop (mkF m (pc + 3) Ls st))) : own_G p e below s Q k n (T.setTop (mkF m pc Ls (.null :: st))) := own_st (fun _ => XS.ifnonnullNo X.here hx rfl (hb hby hd) rfl) h
theorem own_tswIn (X : Stand p l e R s m args below meth c T locs cells slots) (hx : p.tables.exec = Jvm.exec) (hby : c.code = code) {dflt low high : Int} {offs : Array Int} {len : Nat} {o : Int} {pc' : Nat} {i : Int32} (hd : decode code pc = .ok (.tableswitch dflt low high offs, len)) (hin : ¬ (i.toInt < low ∨ i.toInt > high)) (hoff : offs[(i.toInt - low).toNat]? = some o) (ho : 0 ≤ (pc : Int) + o) (hp : ((pc : Int) + o).toNat = pc') (h : own_G p e below s Q k n (T.setTop (mkF m pc' Ls st))) : own_G p e below s Q k n (T.setTop (mkF m pc Ls (.int i :: st))) := own_st (fun _ => XS.tswIn (g := mkF m pc Ls (.int i :: st)) (pc0 := pc) X.here hx rfl rfl (hb hby hd) rfl hin hoff ho hp) h
theorem own_ldcI (X : Stand p l e R s m args below meth c T locs cells slots) (hx : p.tables.exec = Jvm.exec) (hby : c.code = code) (hZ : Z.Warmed39 s.vm) {own : String} {i : Nat} {v : Int32} (hown : s.vm.findClass own = some m.cls) (w : (Cond.constant own i v).before a0 Z = true) (hd : decode code pc = .ok (.ldc i, 2)) (h : own_G p e below s Q k n (T.setTop (mkF m (pc + 2) Ls (.int v :: st)))) : own_G p e below s Q k n (T.setTop (mkF m pc Ls st)) := own_st (X.ldcInt hx hown (mvT hZ w) rfl (hb hby hd)) h
theorem own_ldcJ (X : Stand p l e R s m args below meth c T locs cells slots) (hx : p.tables.exec = Jvm.exec) (hby : c.code = code) (hZ : Z.Warmed39 s.vm) {own : String} {i : Nat} {v : Int64} (hown : s.vm.findClass own = some m.cls) (w : (Cond.constantLong own i v).before a0 Z = true) (hd : decode code pc = .ok (.ldc2_w i, 3)) (h : own_G p e below s Q k n (T.setTop (mkF m (pc + 3) Ls (.long v :: st)))) : own_G p e below s Q k n (T.setTop (mkF m pc Ls st)) := own_st (X.ldc2Long hx hown (mvT hZ w) rfl (hb hby hd)) h
theorem own_instNull (X : Stand p l e R s m args below meth c T locs cells slots) (hx : p.tables.exec = Jvm.exec) (hby : c.code = code) {i : Nat} (hd : decode code pc = .ok (.instanceof i, 3)) (h : own_G p e below s Q k n (T.setTop (mkF m (pc + 3) Ls (.int 0 :: st)))) : own_G p e below s Q k n (T.setTop (mkF m pc Ls (.null :: st))) := own_st (X.instanceofNull hx rfl rfl (hb hby hd)) h
theorem own_castNull (X : Stand p l e R s m args below meth c T locs cells slots) (hx : p.tables.exec = Jvm.exec) (hby : c.code = code) {i : Nat} (hd : decode code pc = .ok (.checkcast i, 3)) (h : own_G p e below s Q k n (T.setTop (mkF m (pc + 3) Ls (.null :: st)))) : own_G p e below s Q k n (T.setTop (mkF m pc Ls (.null :: st))) := own_st (X.checkcastNull hx rfl rfl (hb hby hd)) h
def own_Ar (Z : State) (h : Heap) (a : Addr) (ty : FieldType) (n : Nat) (f : Nat → Value) : Prop := ∃ c : Cell, Arr Z h a c ty ∧ c.slots.size = n ∧ n < 2 ^ 31 ∧ ∀ j, j < n → c.slots[j]? = some (f j)
def own_set (f : Nat → Value) (j : Nat) (v : Value) : Nat → Value := fun i => if i = j then v else f i
theorem own_set_same (f : Nat → Value) (j : Nat) (v : Value) : own_set f j v j = v := if_pos rfl
theorem own_set_ne (f : Nat → Value) {i j : Nat} (v : Value) (q : i ≠ j) : own_set f j v i = f i := if_neg q
theorem own_Ar.lt {a : Addr} {ty : FieldType} {N : Nat} {f : Nat → Value} (F : own_Ar Z h a ty N f) : a < h.size := by obtain ⟨c, A, -⟩ := F; exact A.lt
theorem own_Ar.small {a : Addr} {ty : FieldType} {N : Nat} {f : Nat → Value} (F : own_Ar Z h a ty N f) : N < 2 ^ 31 := by obtain ⟨c, -, -, q, -⟩ := F; exact q
theorem own_Ar.ext {h' : Heap} {a : Addr} {ty : FieldType} {N : Nat} {f : Nat → Value} (F : own_Ar Z h a ty N f) (E : Ext h h') : own_Ar Z h' a ty N f := by obtain ⟨c, A, r⟩ := F; exact ⟨c, A.ext E, r⟩
theorem own_Ar.other {h' : Heap} {a b : Addr} {sl : Nat} {v : Value} {ty : FieldType} {N : Nat} {f : Nat → Value} (F : own_Ar Z h b ty N f) (W : Wr h h' a sl v) (q : b ≠ a) : own_Ar Z h' b ty N f := by obtain ⟨c, A, r⟩ := F; exact ⟨c, A.other W q, r⟩
theorem own_Ar.keep {h' : Heap} {a : Addr} {ws : List Addr} {ty : FieldType} {N : Nat} {f : Nat → Value} (F : own_Ar Z h a ty N f) (K : Keep h h' ws) (q : a ∉ ws) : own_Ar Z h' a ty N f := by obtain ⟨c, A, r⟩ := F; exact ⟨c, ⟨K.2.1 a c A.1 q, A.2⟩, r⟩
theorem own_Ar.fn {a : Addr} {ty : FieldType} {N : Nat} {f g : Nat → Value} (F : own_Ar Z h a ty N f) (q : ∀ j, j < N → f j = g j) : own_Ar Z h a ty N g := by obtain ⟨c, A, r1, r2, r3⟩ := F; exact ⟨c, A, r1, r2, fun j hj => by rw [r3 j hj, q j hj]⟩
theorem own_Ar.store {h' : Heap} {a : Addr} {c : Cell} {ty : FieldType} {N j : Nat} {f : Nat → Value} {v : Value} (A : Arr Z h a c ty) (r1 : c.slots.size = N) (r2 : N < 2 ^ 31) (r3 : ∀ j, j < N → c.slots[j]? = some (f j)) (W : Wr h h' a j v) : own_Ar Z h' a ty N (own_set f j v) := by
  refine ⟨_, A.same W, by rw [sz_set]; exact r1, r2, fun i hi => ?_⟩
  by_cases e : i = j
  · subst e; rw [own_set_same]; simp [Cell.setSlot, r1, hi]
  · rw [own_set_ne _ _ e, ← r3 i hi]; exact Array.getElem?_setIfInBounds_ne (fun q => e q.symm)
theorem own_Ar.new {a : Addr} {ty : FieldType} {kc : ClassId} {z : Int32} (A : Arr Z h a (newA kc ty z) ty) (q : ¬ z < 0) : own_Ar Z h a ty z.toNatClampNeg (fun _ => defaultValue ty) :=
  ⟨_, A, sz_new _ _ _, (back32 q).2, fun j hj => by simp [newA, hj]⟩
theorem own_inb {N : Nat} {j : Int32} {i : Nat} (hj : j.toInt = i) (hi : i < N) : ¬ (j < 0 ∨ N ≤ j.toNatClampNeg) ∧ j.toNatClampNeg = i := by
  have q : j.toNatClampNeg = i := by simp only [Int32.toNatClampNeg, hj]; omega
  refine ⟨?_, q⟩
  rw [q]; simp only [Int32.lt_iff_toInt_lt, hj, Int32.reduceToInt]; omega
def own_Ov (Z : State) (h : Heap) (a : Addr) (C : String) : Prop := ∃ cell : Cell, h[a]? = some cell ∧ Ovr Z cell.cls C
theorem own_Ov.ext {h' : Heap} {a : Addr} {C : String} (F : own_Ov Z h a C) (E : Ext h h') : own_Ov Z h' a C := by obtain ⟨c, h1, h2⟩ := F; exact ⟨c, E.2 _ _ h1, h2⟩
theorem own_Ov.wr {h' : Heap} {a b : Addr} {sl : Nat} {v : Value} {C : String} (F : own_Ov Z h a C) (W : Wr h h' b sl v) : own_Ov Z h' a C := by obtain ⟨c, h1, h2⟩ := F; obtain ⟨c', e1, e2, -⟩ := wr_at W h1; exact ⟨c', e1, by rw [e2]; exact h2⟩
theorem own_Ov.keep {h' : Heap} {a : Addr} {ws : List Addr} {C : String} (F : own_Ov Z h a C) (K : Keep h h' ws) : own_Ov Z h' a C := by obtain ⟨c, h1, h2⟩ := F; obtain ⟨c', e1, e2, -⟩ := K.2.2 _ _ h1; exact ⟨c', e1, by rw [e2]; exact h2⟩
theorem own_sto {a y : Addr} {ty : FieldType} {N : Nat} {f : Nat → Value} {C : String} (F : own_Ar Z h a ty N f) (V : own_Ov Z h a C) (I : Ins Z h y C true) : Sto Z h a (.ref y) := by
  obtain ⟨c, A, -⟩ := F; obtain ⟨c', h1, h2⟩ := V; cases A.1.symm.trans h1; exact Sto.of A h2 I
theorem own_alen (X : Stand p l e R s m args below meth c T locs cells slots) (hx : p.tables.exec = Jvm.exec) (hby : c.code = code) (hZ : Z.Warmed39 s.vm) (eT : T.heap = h) {a : Addr} {ty : FieldType} {N : Nat} {f : Nat → Value} (F : own_Ar Z h a ty N f) (hd : decode code pc = .ok (.arraylength, 1)) (h2 : own_G p e below s Q k n (T.setTop (mkF m (pc + 1) Ls (.int N.toInt32 :: st)))) : own_G p e below s Q k n (T.setTop (mkF m pc Ls (.ref a :: st))) := by
  obtain ⟨cl, A, r1, r2, r3⟩ := F
  refine own_st (fun _ => X.arraylength hx (by rw [eT]; exact A.1) (State.isArrayOf_alike hZ.alike A.2.1) (g := mkF m pc Ls (.ref a :: st)) rfl rfl (hb hby hd) _) ?_
  rw [r1]; exact h2
theorem own_iaload (X : Stand p l e R s m args below meth c T locs cells slots) (hx : p.tables.exec = Jvm.exec) (hby : c.code = code) (hZ : Z.Warmed39 s.vm) (eT : T.heap = h) {a : Addr} {N : Nat} {f : Nat → Value} (F : own_Ar Z h a .int N f) {j : Int32} {i : Nat} (hj : j.toInt = i) (hi : i < N) (hd : decode code pc = .ok (.iaload, 1)) (h2 : own_G p e below s Q k n (T.setTop (mkF m (pc + 1) Ls (f i :: st)))) : own_G p e below s Q k n (T.setTop (mkF m pc Ls (.int j :: .ref a :: st))) := by
  obtain ⟨cl, A, r1, r2, r3⟩ := F
  obtain ⟨q1, q2⟩ := own_inb hj hi
  exact own_st (fun _ => X.iaload hx (v := f i) (by rw [eT]; exact A.1) (State.isArrayOf_alike hZ.alike A.2.1) A.2.2 (j := j) (by rw [r1]; exact q1) (by rw [q2]; exact r3 i hi) (g := mkF m pc Ls (.int j :: .ref a :: st)) rfl rfl (hb hby hd) _) h2
theorem own_laload (X : Stand p l e R s m args below meth c T locs cells slots) (hx : p.tables.exec = Jvm.exec) (hby : c.code = code) (hZ : Z.Warmed39 s.vm) (eT : T.heap = h) {a : Addr} {N : Nat} {f : Nat → Value} (F : own_Ar Z h a .long N f) {j : Int32} {i : Nat} (hj : j.toInt = i) (hi : i < N) (hd : decode code pc = .ok (.laload, 1)) (h2 : own_G p e below s Q k n (T.setTop (mkF m (pc + 1) Ls (f i :: st)))) : own_G p e below s Q k n (T.setTop (mkF m pc Ls (.int j :: .ref a :: st))) := by
  obtain ⟨cl, A, r1, r2, r3⟩ := F
  obtain ⟨q1, q2⟩ := own_inb hj hi
  exact own_st (fun _ => X.laload hx (v := f i) (by rw [eT]; exact A.1) (State.isArrayOf_alike hZ.alike A.2.1) A.2.2 (j := j) (by rw [r1]; exact q1) (by rw [q2]; exact r3 i hi) (g := mkF m pc Ls (.int j :: .ref a :: st)) rfl rfl (hb hby hd) _) h2
theorem own_baload (X : Stand p l e R s m args below meth c T locs cells slots) (hx : p.tables.exec = Jvm.exec) (hby : c.code = code) (hZ : Z.Warmed39 s.vm) (eT : T.heap = h) {a : Addr} {N : Nat} {f : Nat → Value} (F : own_Ar Z h a .byte N f) {j : Int32} {i : Nat} (hj : j.toInt = i) (hi : i < N) (hd : decode code pc = .ok (.baload, 1)) (h2 : own_G p e below s Q k n (T.setTop (mkF m (pc + 1) Ls (f i :: st)))) : own_G p e below s Q k n (T.setTop (mkF m pc Ls (.int j :: .ref a :: st))) := by
  obtain ⟨cl, A, r1, r2, r3⟩ := F
  obtain ⟨q1, q2⟩ := own_inb hj hi
  exact own_st (fun _ => X.baloadBytes hx (v := f i) (by rw [eT]; exact A.1) (State.isArrayOf_alike hZ.alike A.2.1) A.2.2 (j := j) (by rw [r1]; exact q1) (by rw [q2]; exact r3 i hi) (g := mkF m pc Ls (.int j :: .ref a :: st)) rfl rfl (hb hby hd) _) h2
theorem own_caload (X : Stand p l e R s m args below meth c T locs cells slots) (hx : p.tables.exec = Jvm.exec) (hby : c.code = code) (hZ : Z.Warmed39 s.vm) (eT : T.heap = h) {a : Addr} {N : Nat} {f : Nat → Value} (F : own_Ar Z h a .char N f) {j : Int32} {i : Nat} (hj : j.toInt = i) (hi : i < N) (hd : decode code pc = .ok (.caload, 1)) (h2 : own_G p e below s Q k n (T.setTop (mkF m (pc + 1) Ls (f i :: st)))) : own_G p e below s Q k n (T.setTop (mkF m pc Ls (.int j :: .ref a :: st))) := by
  obtain ⟨cl, A, r1, r2, r3⟩ := F
  obtain ⟨q1, q2⟩ := own_inb hj hi
  exact own_st (fun _ => X.caload hx (v := f i) (by rw [eT]; exact A.1) (State.isArrayOf_alike hZ.alike A.2.1) A.2.2 (j := j) (by rw [r1]; exact q1) (by rw [q2]; exact r3 i hi) (g := mkF m pc Ls (.int j :: .ref a :: st)) rfl rfl (hb hby hd) _) h2
theorem own_aaload (X : Stand p l e R s m args below meth c T locs cells slots) (hx : p.tables.exec = Jvm.exec) (hby : c.code = code) (hZ : Z.Warmed39 s.vm) (eT : T.heap = h) {a : Addr} {ty : FieldType} {N : Nat} {f : Nat → Value} (F : own_Ar Z h a ty N f) (hty : ty.isReference = true) {j : Int32} {i : Nat} (hj : j.toInt = i) (hi : i < N) (hd : decode code pc = .ok (.aaload, 1)) (h2 : own_G p e below s Q k n (T.setTop (mkF m (pc + 1) Ls (f i :: st)))) : own_G p e below s Q k n (T.setTop (mkF m pc Ls (.int j :: .ref a :: st))) := by
  obtain ⟨cl, A, r1, r2, r3⟩ := F
  obtain ⟨q1, q2⟩ := own_inb hj hi
  exact own_st (fun _ => X.aaload hx (v := f i) (by rw [eT]; exact A.1) (State.isArrayOf_alike hZ.alike A.2.1) hty A.2.2 (j := j) (by rw [r1]; exact q1) (by rw [q2]; exact r3 i hi) (g := mkF m pc Ls (.int j :: .ref a :: st)) rfl rfl (hb hby hd) _) h2
theorem own_iastore (X : Stand p l e R s m args below meth c T locs cells slots) (hx : p.tables.exec = Jvm.exec) (hby : c.code = code) (hZ : Z.Warmed39 s.vm) (eT : T.heap = h) {a : Addr} {N : Nat} {f : Nat → Value} (F : own_Ar Z h a .int N f) {j : Int32} {i : Nat} (hj : j.toInt = i) (hi : i < N) {x : Int32} (hd : decode code pc = .ok (.iastore, 1)) : ∃ T' h', Stand p l e R s m args below meth c T' (locs ++ [⟨a, i⟩]) cells slots ∧ T'.heap = h' ∧ Wr h h' a i (.int x) ∧ own_Ar Z h' a .int N (own_set f i (.int x)) ∧ ∀ target, Steps p.tables e below (T'.setTop (mkF m (pc + 1) Ls st)) target → Steps p.tables e below (T.setTop (mkF m pc Ls (.int x :: .int j :: .ref a :: st))) target := by
  obtain ⟨cl, A, r1, r2, r3⟩ := F
  obtain ⟨q1, q2⟩ := own_inb hj hi
  obtain ⟨T', h', X', e', W, stp⟩ := stI X hx hZ eT A (j := j) (by rw [r1]; exact q1) (g := mkF m pc Ls (.int x :: .int j :: .ref a :: st)) rfl rfl (hb hby hd)
  rw [q2] at X' W
  exact ⟨T', h', X', e', W, own_Ar.store A r1 r2 r3 W, stp⟩
theorem own_lastore (X : Stand p l e R s m args below meth c T locs cells slots) (hx : p.tables.exec = Jvm.exec) (hby : c.code = code) (hZ : Z.Warmed39 s.vm) (eT : T.heap = h) {a : Addr} {N : Nat} {f : Nat → Value} (F : own_Ar Z h a .long N f) {j : Int32} {i : Nat} (hj : j.toInt = i) (hi : i < N) {x : Int64} (hd : decode code pc = .ok (.lastore, 1)) : ∃ T' h', Stand p l e R s m args below meth c T' (locs ++ [⟨a, i⟩]) cells slots ∧ T'.heap = h' ∧ Wr h h' a i (.long x) ∧ own_Ar Z h' a .long N (own_set f i (.long x)) ∧ ∀ target, Steps p.tables e below (T'.setTop (mkF m (pc + 1) Ls st)) target → Steps p.tables e below (T.setTop (mkF m pc Ls (.long x :: .int j :: .ref a :: st))) target := by
  obtain ⟨cl, A, r1, r2, r3⟩ := F
  obtain ⟨q1, q2⟩ := own_inb hj hi
  obtain ⟨T', h', X', e', W, stp⟩ := stJ X hx hZ eT A (j := j) (by rw [r1]; exact q1) (g := mkF m pc Ls (.long x :: .int j :: .ref a :: st)) rfl rfl (hb hby hd)
  rw [q2] at X' W
  exact ⟨T', h', X', e', W, own_Ar.store A r1 r2 r3 W, stp⟩
theorem own_bastore (X : Stand p l e R s m args below meth c T locs cells slots) (hx : p.tables.exec = Jvm.exec) (hby : c.code = code) (hZ : Z.Warmed39 s.vm) (eT : T.heap = h) {a : Addr} {N : Nat} {f : Nat → Value} (F : own_Ar Z h a .byte N f) {j : Int32} {i : Nat} (hj : j.toInt = i) (hi : i < N) {x : Int32} (hd : decode code pc = .ok (.bastore, 1)) : ∃ T' h', Stand p l e R s m args below meth c T' (locs ++ [⟨a, i⟩]) cells slots ∧ T'.heap = h' ∧ Wr h h' a i (.int (nar .byte x)) ∧ own_Ar Z h' a .byte N (own_set f i (.int (nar .byte x))) ∧ ∀ target, Steps p.tables e below (T'.setTop (mkF m (pc + 1) Ls st)) target → Steps p.tables e below (T.setTop (mkF m pc Ls (.int x :: .int j :: .ref a :: st))) target := by
  obtain ⟨cl, A, r1, r2, r3⟩ := F
  obtain ⟨q1, q2⟩ := own_inb hj hi
  obtain ⟨T', h', X', e', W, stp⟩ := stB X hx hZ eT A (j := j) (by rw [r1]; exact q1) (g := mkF m pc Ls (.int x :: .int j :: .ref a :: st)) rfl rfl (hb hby hd)
  rw [q2] at X' W
  exact ⟨T', h', X', e', W, own_Ar.store A r1 r2 r3 W, stp⟩
theorem own_castore (X : Stand p l e R s m args below meth c T locs cells slots) (hx : p.tables.exec = Jvm.exec) (hby : c.code = code) (hZ : Z.Warmed39 s.vm) (eT : T.heap = h) {a : Addr} {N : Nat} {f : Nat → Value} (F : own_Ar Z h a .char N f) {j : Int32} {i : Nat} (hj : j.toInt = i) (hi : i < N) {x : Int32} (hd : decode code pc = .ok (.castore, 1)) : ∃ T' h', Stand p l e R s m args below meth c T' (locs ++ [⟨a, i⟩]) cells slots ∧ T'.heap = h' ∧ Wr h h' a i (.int (nar .char x)) ∧ own_Ar Z h' a .char N (own_set f i (.int (nar .char x))) ∧ ∀ target, Steps p.tables e below (T'.setTop (mkF m (pc + 1) Ls st)) target → Steps p.tables e below (T.setTop (mkF m pc Ls (.int x :: .int j :: .ref a :: st))) target := by
  obtain ⟨cl, A, r1, r2, r3⟩ := F
  obtain ⟨q1, q2⟩ := own_inb hj hi
  obtain ⟨T', h', X', e', W, stp⟩ := stC X hx hZ eT A (j := j) (by rw [r1]; exact q1) (g := mkF m pc Ls (.int x :: .int j :: .ref a :: st)) rfl rfl (hb hby hd)
  rw [q2] at X' W
  exact ⟨T', h', X', e', W, own_Ar.store A r1 r2 r3 W, stp⟩
theorem own_dastore (X : Stand p l e R s m args below meth c T locs cells slots) (hx : p.tables.exec = Jvm.exec) (hby : c.code = code) (hZ : Z.Warmed39 s.vm) (eT : T.heap = h) {a : Addr} {N : Nat} {f : Nat → Value} (F : own_Ar Z h a .double N f) {j : Int32} {i : Nat} (hj : j.toInt = i) (hi : i < N) {x : UInt64} (hd : decode code pc = .ok (.dastore, 1)) : ∃ T' h', Stand p l e R s m args below meth c T' (locs ++ [⟨a, i⟩]) cells slots ∧ T'.heap = h' ∧ Wr h h' a i (.double x) ∧ own_Ar Z h' a .double N (own_set f i (.double x)) ∧ ∀ target, Steps p.tables e below (T'.setTop (mkF m (pc + 1) Ls st)) target → Steps p.tables e below (T.setTop (mkF m pc Ls (.double x :: .int j :: .ref a :: st))) target := by
  obtain ⟨cl, A, r1, r2, r3⟩ := F
  obtain ⟨q1, q2⟩ := own_inb hj hi
  obtain ⟨T', h', X', e', W, stp⟩ := stD X hx hZ eT A (j := j) (by rw [r1]; exact q1) (g := mkF m pc Ls (.double x :: .int j :: .ref a :: st)) rfl rfl (hb hby hd)
  rw [q2] at X' W
  exact ⟨T', h', X', e', W, own_Ar.store A r1 r2 r3 W, stp⟩
theorem own_aastore (X : Stand p l e R s m args below meth c T locs cells slots) (hx : p.tables.exec = Jvm.exec) (hby : c.code = code) (hZ : Z.Warmed39 s.vm) (eT : T.heap = h) {a : Addr} {ty : FieldType} {N : Nat} {f : Nat → Value} (F : own_Ar Z h a ty N f) (hty : ty.isReference = true) {j : Int32} {i : Nat} (hj : j.toInt = i) (hi : i < N) {v : Value} (S : Sto Z h a v) (hd : decode code pc = .ok (.aastore, 1)) : ∃ T' h', Stand p l e R s m args below meth c T' (locs ++ [⟨a, i⟩]) cells slots ∧ T'.heap = h' ∧ Wr h h' a i v ∧ own_Ar Z h' a ty N (own_set f i v) ∧ ∀ target, Steps p.tables e below (T'.setTop (mkF m (pc + 1) Ls st)) target → Steps p.tables e below (T.setTop (mkF m pc Ls (v :: .int j :: .ref a :: st))) target := by
  obtain ⟨cl, A, r1, r2, r3⟩ := F
  obtain ⟨q1, q2⟩ := own_inb hj hi
  obtain ⟨T', h', X', e', W, stp⟩ := stR X hx hZ eT A (j := j) (by rw [r1]; exact q1) hty S (g := mkF m pc Ls (v :: .int j :: .ref a :: st)) rfl rfl (hb hby hd)
  rw [q2] at X' W
  exact ⟨T', h', X', e', W, own_Ar.store A r1 r2 r3 W, stp⟩
end OwnSteps
theorem own_narR {C : String} {v : Value} (h : v.isRef = true) : narrow (.object C) v = v := by rcases ref_cases h with rfl | ⟨z, rfl⟩ <;> rfl
theorem own_catR {v : Value} (h : v.isRef = true) : v.category = 1 := by rcases ref_cases h with rfl | ⟨z, rfl⟩ <;> rfl
theorem own_fitR {C : String} {v : Value} (h : v.isRef = true) : fits (.object C) v = true := by rcases ref_cases h with rfl | ⟨z, rfl⟩ <;> rfl
theorem own_irr {x : Int32} : ¬ x < x := by rw [Int32.lt_iff_toInt_lt]; omega
theorem own_irrL {x : Int64} : ¬ x < x := by rw [Int64.lt_iff_toInt_lt]; omega
theorem own_w0 {Z : State} {a0 : Array Value} (hw : ∀ d ∈ tables_1, d.before a0 Z = true) : (Jvm.Cond.constant "com/example/tuck/tuck/ListWindowDepthPinLaw" (7 : Nat) (1073741823 : Int32)).before a0 Z = true := hw _ (List.mem_of_getElem? (i := 0) rfl)
theorem own_w1 {Z : State} {a0 : Array Value} (hw : ∀ d ∈ tables_1, d.before a0 Z = true) : (Jvm.Cond.constant "com/example/tuck/tuck/ListWindowDepthPinLaw" (8 : Nat) (2147483647 : Int32)).before a0 Z = true := hw _ (List.mem_of_getElem? (i := 1) rfl)
theorem own_w2 {Z : State} {a0 : Array Value} (hw : ∀ d ∈ tables_1, d.before a0 Z = true) : (Jvm.Cond.classLink "com/example/tuck/tuck/ListWindowDepthPinLaw" (10 : Nat) "com/example/tuck/tuck/ListWindow").before a0 Z = true := hw _ (List.mem_of_getElem? (i := 2) rfl)
theorem own_w3 {Z : State} {a0 : Array Value} (hw : ∀ d ∈ tables_1, d.before a0 Z = true) : (Jvm.Cond.instantiable "com/example/tuck/tuck/ListWindow" (4 : Nat)).before a0 Z = true := hw _ (List.mem_of_getElem? (i := 3) rfl)
theorem own_w4 {Z : State} {a0 : Array Value} (hw : ∀ d ∈ tables_1, d.before a0 Z = true) : (Jvm.Cond.initialized "com/example/tuck/tuck/ListWindow").before a0 Z = true := hw _ (List.mem_of_getElem? (i := 4) rfl)
theorem own_w5 {Z : State} {a0 : Array Value} (hw : ∀ d ∈ tables_1, d.before a0 Z = true) : (Jvm.Cond.methodLink "com/example/tuck/tuck/ListWindowDepthPinLaw" (12 : Nat) ({ cls := "com/example/tuck/tuck/ListWindow", name := "<init>", desc := "(II)V" } : Jvm.MethodName)).before a0 Z = true := hw _ (List.mem_of_getElem? (i := 5) rfl)
theorem own_w6 {Z : State} {a0 : Array Value} (hw : ∀ d ∈ tables_1, d.before a0 Z = true) : (Jvm.Cond.instanceMethod ({ cls := "com/example/tuck/tuck/ListWindow", name := "<init>", desc := "(II)V" } : Jvm.MethodName)).before a0 Z = true := hw _ (List.mem_of_getElem? (i := 6) rfl)
theorem own_w7 {Z : State} {a0 : Array Value} (hw : ∀ d ∈ tables_1, d.before a0 Z = true) : (Jvm.Cond.code ({ cls := "com/example/tuck/tuck/ListWindow", name := "<init>", desc := "(II)V" } : Jvm.MethodName) prog_53_method_1_code (5 : Nat) (Option.none : Option Jvm.ClassFile.FieldType)).before a0 Z = true := hw _ (List.mem_of_getElem? (i := 7) rfl)
theorem own_w8 {Z : State} {a0 : Array Value} (hw : ∀ d ∈ tables_1, d.before a0 Z = true) : (Jvm.Cond.methodLink "com/example/tuck/tuck/ListWindow" (1 : Nat) ({ cls := "java/lang/Object", name := "<init>", desc := "()V" } : Jvm.MethodName)).before a0 Z = true := hw _ (List.mem_of_getElem? (i := 8) rfl)
theorem own_w9 {Z : State} {a0 : Array Value} (hw : ∀ d ∈ tables_1, d.before a0 Z = true) : (Jvm.Cond.instanceMethod ({ cls := "java/lang/Object", name := "<init>", desc := "()V" } : Jvm.MethodName)).before a0 Z = true := hw _ (List.mem_of_getElem? (i := 9) rfl)
theorem own_w10 {Z : State} {a0 : Array Value} (hw : ∀ d ∈ tables_1, d.before a0 Z = true) : (Jvm.Cond.code ({ cls := "java/lang/Object", name := "<init>", desc := "()V" } : Jvm.MethodName) object_method_1_code (1 : Nat) (Option.none : Option Jvm.ClassFile.FieldType)).before a0 Z = true := hw _ (List.mem_of_getElem? (i := 10) rfl)
theorem own_w11 {Z : State} {a0 : Array Value} (hw : ∀ d ∈ tables_1, d.before a0 Z = true) : (Jvm.Cond.methodLink "com/example/tuck/tuck/ListWindow" (7 : Nat) ({ cls := "java/lang/Math", name := "min", desc := "(JJ)J" } : Jvm.MethodName)).before a0 Z = true := hw _ (List.mem_of_getElem? (i := 11) rfl)
theorem own_w12 {Z : State} {a0 : Array Value} (hw : ∀ d ∈ tables_1, d.before a0 Z = true) : (Jvm.Cond.static ({ cls := "java/lang/Math", name := "min", desc := "(JJ)J" } : Jvm.MethodName)).before a0 Z = true := hw _ (List.mem_of_getElem? (i := 12) rfl)
theorem own_w13 {Z : State} {a0 : Array Value} (hw : ∀ d ∈ tables_1, d.before a0 Z = true) : (Jvm.Cond.initialized "java/lang/Math").before a0 Z = true := hw _ (List.mem_of_getElem? (i := 13) rfl)
theorem own_w14 {Z : State} {a0 : Array Value} (hw : ∀ d ∈ tables_1, d.before a0 Z = true) : (Jvm.Cond.code ({ cls := "java/lang/Math", name := "min", desc := "(JJ)J" } : Jvm.MethodName) jdk_29_method_70_code (4 : Nat) (Option.some Jvm.ClassFile.FieldType.long)).before a0 Z = true := hw _ (List.mem_of_getElem? (i := 14) rfl)
theorem own_w15 {Z : State} {a0 : Array Value} (hw : ∀ d ∈ tables_1, d.before a0 Z = true) : (Jvm.Cond.methodLink "com/example/tuck/tuck/ListWindow" (13 : Nat) ({ cls := "java/lang/Math", name := "max", desc := "(JJ)J" } : Jvm.MethodName)).before a0 Z = true := hw _ (List.mem_of_getElem? (i := 15) rfl)
theorem own_w16 {Z : State} {a0 : Array Value} (hw : ∀ d ∈ tables_1, d.before a0 Z = true) : (Jvm.Cond.static ({ cls := "java/lang/Math", name := "max", desc := "(JJ)J" } : Jvm.MethodName)).before a0 Z = true := hw _ (List.mem_of_getElem? (i := 16) rfl)
theorem own_w17 {Z : State} {a0 : Array Value} (hw : ∀ d ∈ tables_1, d.before a0 Z = true) : (Jvm.Cond.code ({ cls := "java/lang/Math", name := "max", desc := "(JJ)J" } : Jvm.MethodName) jdk_29_method_66_code (4 : Nat) (Option.some Jvm.ClassFile.FieldType.long)).before a0 Z = true := hw _ (List.mem_of_getElem? (i := 17) rfl)
theorem own_w18 {Z : State} {a0 : Array Value} (hw : ∀ d ∈ tables_1, d.before a0 Z = true) : (Jvm.Cond.methodLink "com/example/tuck/tuck/ListWindow" (16 : Nat) ({ cls := "java/lang/Integer", name := "highestOneBit", desc := "(I)I" } : Jvm.MethodName)).before a0 Z = true := hw _ (List.mem_of_getElem? (i := 18) rfl)
theorem own_w19 {Z : State} {a0 : Array Value} (hw : ∀ d ∈ tables_1, d.before a0 Z = true) : (Jvm.Cond.static ({ cls := "java/lang/Integer", name := "highestOneBit", desc := "(I)I" } : Jvm.MethodName)).before a0 Z = true := hw _ (List.mem_of_getElem? (i := 19) rfl)
theorem own_w20 {Z : State} {a0 : Array Value} (hw : ∀ d ∈ tables_1, d.before a0 Z = true) : (Jvm.Cond.initialized "java/lang/Integer").before a0 Z = true := hw _ (List.mem_of_getElem? (i := 20) rfl)
theorem own_w21 {Z : State} {a0 : Array Value} (hw : ∀ d ∈ tables_1, d.before a0 Z = true) : (Jvm.Cond.code ({ cls := "java/lang/Integer", name := "highestOneBit", desc := "(I)I" } : Jvm.MethodName) jdk_33_method_45_code (1 : Nat) (Option.some Jvm.ClassFile.FieldType.int)).before a0 Z = true := hw _ (List.mem_of_getElem? (i := 21) rfl)
theorem own_w22 {Z : State} {a0 : Array Value} (hw : ∀ d ∈ tables_1, d.before a0 Z = true) : (Jvm.Cond.constant "java/lang/Integer" (127 : Nat) (-2147483648 : Int32)).before a0 Z = true := hw _ (List.mem_of_getElem? (i := 22) rfl)
theorem own_w23 {Z : State} {a0 : Array Value} (hw : ∀ d ∈ tables_1, d.before a0 Z = true) : (Jvm.Cond.methodLink "java/lang/Integer" (51 : Nat) ({ cls := "java/lang/Integer", name := "numberOfLeadingZeros", desc := "(I)I" } : Jvm.MethodName)).before a0 Z = true := hw _ (List.mem_of_getElem? (i := 23) rfl)
theorem own_w24 {Z : State} {a0 : Array Value} (hw : ∀ d ∈ tables_1, d.before a0 Z = true) : (Jvm.Cond.static ({ cls := "java/lang/Integer", name := "numberOfLeadingZeros", desc := "(I)I" } : Jvm.MethodName)).before a0 Z = true := hw _ (List.mem_of_getElem? (i := 24) rfl)
theorem own_w25 {Z : State} {a0 : Array Value} (hw : ∀ d ∈ tables_1, d.before a0 Z = true) : (Jvm.Cond.code ({ cls := "java/lang/Integer", name := "numberOfLeadingZeros", desc := "(I)I" } : Jvm.MethodName) jdk_33_method_47_code (2 : Nat) (Option.some Jvm.ClassFile.FieldType.int)).before a0 Z = true := hw _ (List.mem_of_getElem? (i := 25) rfl)
theorem own_w26 {Z : State} {a0 : Array Value} (hw : ∀ d ∈ tables_1, d.before a0 Z = true) : (Jvm.Cond.constant "java/lang/Integer" (264 : Nat) (65536 : Int32)).before a0 Z = true := hw _ (List.mem_of_getElem? (i := 26) rfl)
theorem own_w27 {Z : State} {a0 : Array Value} (hw : ∀ d ∈ tables_1, d.before a0 Z = true) : (Jvm.Cond.fieldLink "com/example/tuck/tuck/ListWindow" (22 : Nat) "com/example/tuck/tuck/ListWindow" "limit" "I").before a0 Z = true := hw _ (List.mem_of_getElem? (i := 27) rfl)
theorem own_w28 {Z : State} {a0 : Array Value} (hw : ∀ d ∈ tables_1, d.before a0 Z = true) : (Jvm.Cond.laysFinal "com/example/tuck/tuck/ListWindow" "com/example/tuck/tuck/ListWindow" "limit" "I").before a0 Z = true := hw _ (List.mem_of_getElem? (i := 28) rfl)
theorem own_w29 {Z : State} {a0 : Array Value} (hw : ∀ d ∈ tables_1, d.before a0 Z = true) : (Jvm.Cond.methodLink "com/example/tuck/tuck/ListWindow" (28 : Nat) ({ cls := "java/lang/Math", name := "min", desc := "(II)I" } : Jvm.MethodName)).before a0 Z = true := hw _ (List.mem_of_getElem? (i := 29) rfl)
theorem own_w30 {Z : State} {a0 : Array Value} (hw : ∀ d ∈ tables_1, d.before a0 Z = true) : (Jvm.Cond.static ({ cls := "java/lang/Math", name := "min", desc := "(II)I" } : Jvm.MethodName)).before a0 Z = true := hw _ (List.mem_of_getElem? (i := 30) rfl)
theorem own_w31 {Z : State} {a0 : Array Value} (hw : ∀ d ∈ tables_1, d.before a0 Z = true) : (Jvm.Cond.code ({ cls := "java/lang/Math", name := "min", desc := "(II)I" } : Jvm.MethodName) jdk_29_method_69_code (2 : Nat) (Option.some Jvm.ClassFile.FieldType.int)).before a0 Z = true := hw _ (List.mem_of_getElem? (i := 31) rfl)
theorem own_w32 {Z : State} {a0 : Array Value} (hw : ∀ d ∈ tables_1, d.before a0 Z = true) : (Jvm.Cond.arrayClass Jvm.ClassFile.FieldType.int).before a0 Z = true := hw _ (List.mem_of_getElem? (i := 32) rfl)
theorem own_w33 {Z : State} {a0 : Array Value} (hw : ∀ d ∈ tables_1, d.before a0 Z = true) : (Jvm.Cond.fieldLink "com/example/tuck/tuck/ListWindow" (31 : Nat) "com/example/tuck/tuck/ListWindow" "vertices" "[I").before a0 Z = true := hw _ (List.mem_of_getElem? (i := 33) rfl)
theorem own_w34 {Z : State} {a0 : Array Value} (hw : ∀ d ∈ tables_1, d.before a0 Z = true) : (Jvm.Cond.lays "com/example/tuck/tuck/ListWindow" "com/example/tuck/tuck/ListWindow" "vertices" "[I").before a0 Z = true := hw _ (List.mem_of_getElem? (i := 34) rfl)
theorem own_w35 {Z : State} {a0 : Array Value} (hw : ∀ d ∈ tables_1, d.before a0 Z = true) : (Jvm.Cond.classLink "com/example/tuck/tuck/ListWindow" (35 : Nat) "[I").before a0 Z = true := hw _ (List.mem_of_getElem? (i := 35) rfl)
theorem own_w36 {Z : State} {a0 : Array Value} (hw : ∀ d ∈ tables_1, d.before a0 Z = true) : (Jvm.Cond.arrayOver (Jvm.ClassFile.FieldType.array Jvm.ClassFile.FieldType.int)).before a0 Z = true := hw _ (List.mem_of_getElem? (i := 36) rfl)
theorem own_w37 {Z : State} {a0 : Array Value} (hw : ∀ d ∈ tables_1, d.before a0 Z = true) : (Jvm.Cond.fieldLink "com/example/tuck/tuck/ListWindow" (36 : Nat) "com/example/tuck/tuck/ListWindow" "lists" "[[I").before a0 Z = true := hw _ (List.mem_of_getElem? (i := 37) rfl)
theorem own_w38 {Z : State} {a0 : Array Value} (hw : ∀ d ∈ tables_1, d.before a0 Z = true) : (Jvm.Cond.lays "com/example/tuck/tuck/ListWindow" "com/example/tuck/tuck/ListWindow" "lists" "[[I").before a0 Z = true := hw _ (List.mem_of_getElem? (i := 38) rfl)
theorem own_w39 {Z : State} {a0 : Array Value} (hw : ∀ d ∈ tables_1, d.before a0 Z = true) : (Jvm.Cond.fieldLink "com/example/tuck/tuck/ListWindow" (40 : Nat) "com/example/tuck/tuck/ListWindow" "depths" "[I").before a0 Z = true := hw _ (List.mem_of_getElem? (i := 39) rfl)
theorem own_w40 {Z : State} {a0 : Array Value} (hw : ∀ d ∈ tables_1, d.before a0 Z = true) : (Jvm.Cond.lays "com/example/tuck/tuck/ListWindow" "com/example/tuck/tuck/ListWindow" "depths" "[I").before a0 Z = true := hw _ (List.mem_of_getElem? (i := 40) rfl)
theorem own_w41 {Z : State} {a0 : Array Value} (hw : ∀ d ∈ tables_1, d.before a0 Z = true) : (Jvm.Cond.methodLink "com/example/tuck/tuck/ListWindow" (43 : Nat) ({ cls := "java/util/Arrays", name := "fill", desc := "([II)V" } : Jvm.MethodName)).before a0 Z = true := hw _ (List.mem_of_getElem? (i := 41) rfl)
theorem own_w42 {Z : State} {a0 : Array Value} (hw : ∀ d ∈ tables_1, d.before a0 Z = true) : (Jvm.Cond.static ({ cls := "java/util/Arrays", name := "fill", desc := "([II)V" } : Jvm.MethodName)).before a0 Z = true := hw _ (List.mem_of_getElem? (i := 42) rfl)
theorem own_w43 {Z : State} {a0 : Array Value} (hw : ∀ d ∈ tables_1, d.before a0 Z = true) : (Jvm.Cond.initialized "java/util/Arrays").before a0 Z = true := hw _ (List.mem_of_getElem? (i := 43) rfl)
theorem own_w44 {Z : State} {a0 : Array Value} (hw : ∀ d ∈ tables_1, d.before a0 Z = true) : (Jvm.Cond.code ({ cls := "java/util/Arrays", name := "fill", desc := "([II)V" } : Jvm.MethodName) jdk_65_method_103_code (4 : Nat) (Option.none : Option Jvm.ClassFile.FieldType)).before a0 Z = true := hw _ (List.mem_of_getElem? (i := 44) rfl)
theorem own_w45 {Z : State} {a0 : Array Value} (hw : ∀ d ∈ tables_1, d.before a0 Z = true) : (Jvm.Cond.methodLink "com/example/tuck/tuck/ListWindowDepthPinLaw" (15 : Nat) ({ cls := "com/example/tuck/tuck/ListWindow", name := "keep", desc := "(I[II)V" } : Jvm.MethodName)).before a0 Z = true := hw _ (List.mem_of_getElem? (i := 45) rfl)
theorem own_w46 {Z : State} {a0 : Array Value} (hw : ∀ d ∈ tables_1, d.before a0 Z = true) : (Jvm.Cond.declares ({ cls := "com/example/tuck/tuck/ListWindow", name := "keep", desc := "(I[II)V" } : Jvm.MethodName)).before a0 Z = true := hw _ (List.mem_of_getElem? (i := 46) rfl)
theorem own_w47 {Z : State} {a0 : Array Value} (hw : ∀ d ∈ tables_1, d.before a0 Z = true) : (Jvm.Cond.instanceMethod ({ cls := "com/example/tuck/tuck/ListWindow", name := "keep", desc := "(I[II)V" } : Jvm.MethodName)).before a0 Z = true := hw _ (List.mem_of_getElem? (i := 47) rfl)
theorem own_w48 {Z : State} {a0 : Array Value} (hw : ∀ d ∈ tables_1, d.before a0 Z = true) : (Jvm.Cond.selects "com/example/tuck/tuck/ListWindow" ({ cls := "com/example/tuck/tuck/ListWindow", name := "keep", desc := "(I[II)V" } : Jvm.MethodName) ({ cls := "com/example/tuck/tuck/ListWindow", name := "keep", desc := "(I[II)V" } : Jvm.MethodName)).before a0 Z = true := hw _ (List.mem_of_getElem? (i := 48) rfl)
theorem own_w49 {Z : State} {a0 : Array Value} (hw : ∀ d ∈ tables_1, d.before a0 Z = true) : (Jvm.Cond.code ({ cls := "com/example/tuck/tuck/ListWindow", name := "keep", desc := "(I[II)V" } : Jvm.MethodName) prog_53_method_3_code (6 : Nat) (Option.none : Option Jvm.ClassFile.FieldType)).before a0 Z = true := hw _ (List.mem_of_getElem? (i := 49) rfl)
theorem own_w50 {Z : State} {a0 : Array Value} (hw : ∀ d ∈ tables_1, d.before a0 Z = true) : (Jvm.Cond.methodLink "com/example/tuck/tuck/ListWindowDepthPinLaw" (22 : Nat) ({ cls := "com/example/tuck/tuck/ListWindow", name := "depth", desc := "(I)I" } : Jvm.MethodName)).before a0 Z = true := hw _ (List.mem_of_getElem? (i := 50) rfl)
theorem own_w51 {Z : State} {a0 : Array Value} (hw : ∀ d ∈ tables_1, d.before a0 Z = true) : (Jvm.Cond.declares ({ cls := "com/example/tuck/tuck/ListWindow", name := "depth", desc := "(I)I" } : Jvm.MethodName)).before a0 Z = true := hw _ (List.mem_of_getElem? (i := 51) rfl)
theorem own_w52 {Z : State} {a0 : Array Value} (hw : ∀ d ∈ tables_1, d.before a0 Z = true) : (Jvm.Cond.instanceMethod ({ cls := "com/example/tuck/tuck/ListWindow", name := "depth", desc := "(I)I" } : Jvm.MethodName)).before a0 Z = true := hw _ (List.mem_of_getElem? (i := 52) rfl)
theorem own_w53 {Z : State} {a0 : Array Value} (hw : ∀ d ∈ tables_1, d.before a0 Z = true) : (Jvm.Cond.selects "com/example/tuck/tuck/ListWindow" ({ cls := "com/example/tuck/tuck/ListWindow", name := "depth", desc := "(I)I" } : Jvm.MethodName) ({ cls := "com/example/tuck/tuck/ListWindow", name := "depth", desc := "(I)I" } : Jvm.MethodName)).before a0 Z = true := hw _ (List.mem_of_getElem? (i := 53) rfl)
theorem own_w54 {Z : State} {a0 : Array Value} (hw : ∀ d ∈ tables_1, d.before a0 Z = true) : (Jvm.Cond.code ({ cls := "com/example/tuck/tuck/ListWindow", name := "depth", desc := "(I)I" } : Jvm.MethodName) prog_53_method_6_code (3 : Nat) (Option.some Jvm.ClassFile.FieldType.int)).before a0 Z = true := hw _ (List.mem_of_getElem? (i := 54) rfl)
theorem own_w55 {Z : State} {a0 : Array Value} (hw : ∀ d ∈ tables_1, d.before a0 Z = true) : (Jvm.Cond.methodLink "com/example/tuck/tuck/ListWindow" (49 : Nat) ({ cls := "com/example/tuck/tuck/ListWindow", name := "depth", desc := "(I)I" } : Jvm.MethodName)).before a0 Z = true := hw _ (List.mem_of_getElem? (i := 55) rfl)
theorem own_w56 {Z : State} {a0 : Array Value} (hw : ∀ d ∈ tables_1, d.before a0 Z = true) : (Jvm.Cond.constant "com/example/tuck/tuck/ListWindowDepthPinLaw" (9 : Nat) (-2147483648 : Int32)).before a0 Z = true := hw _ (List.mem_of_getElem? (i := 56) rfl)
theorem own_w57 {Z : State} {a0 : Array Value} (hw : ∀ d ∈ tables_1, d.before a0 Z = true) : (Jvm.Cond.methodLink "com/example/tuck/tuck/ListWindowDepthPinLaw" (19 : Nat) ({ cls := "com/example/tuck/tuck/ListWindow", name := "clear", desc := "()V" } : Jvm.MethodName)).before a0 Z = true := hw _ (List.mem_of_getElem? (i := 57) rfl)
theorem own_w58 {Z : State} {a0 : Array Value} (hw : ∀ d ∈ tables_1, d.before a0 Z = true) : (Jvm.Cond.declares ({ cls := "com/example/tuck/tuck/ListWindow", name := "clear", desc := "()V" } : Jvm.MethodName)).before a0 Z = true := hw _ (List.mem_of_getElem? (i := 58) rfl)
theorem own_w59 {Z : State} {a0 : Array Value} (hw : ∀ d ∈ tables_1, d.before a0 Z = true) : (Jvm.Cond.instanceMethod ({ cls := "com/example/tuck/tuck/ListWindow", name := "clear", desc := "()V" } : Jvm.MethodName)).before a0 Z = true := hw _ (List.mem_of_getElem? (i := 59) rfl)
theorem own_w60 {Z : State} {a0 : Array Value} (hw : ∀ d ∈ tables_1, d.before a0 Z = true) : (Jvm.Cond.selects "com/example/tuck/tuck/ListWindow" ({ cls := "com/example/tuck/tuck/ListWindow", name := "clear", desc := "()V" } : Jvm.MethodName) ({ cls := "com/example/tuck/tuck/ListWindow", name := "clear", desc := "()V" } : Jvm.MethodName)).before a0 Z = true := hw _ (List.mem_of_getElem? (i := 60) rfl)
theorem own_w61 {Z : State} {a0 : Array Value} (hw : ∀ d ∈ tables_1, d.before a0 Z = true) : (Jvm.Cond.code ({ cls := "com/example/tuck/tuck/ListWindow", name := "clear", desc := "()V" } : Jvm.MethodName) prog_53_method_2_code (1 : Nat) (Option.none : Option Jvm.ClassFile.FieldType)).before a0 Z = true := hw _ (List.mem_of_getElem? (i := 61) rfl)
theorem own_w62 {Z : State} {a0 : Array Value} (hw : ∀ d ∈ tables_1, d.before a0 Z = true) : (Jvm.Cond.methodLink "com/example/tuck/tuck/ListWindow" (52 : Nat) ({ cls := "com/example/tuck/tuck/ListWindow", name := "grow", desc := "()V" } : Jvm.MethodName)).before a0 Z = true := hw _ (List.mem_of_getElem? (i := 62) rfl)
theorem own_w63 {Z : State} {a0 : Array Value} (hw : ∀ d ∈ tables_1, d.before a0 Z = true) : (Jvm.Cond.instanceMethod ({ cls := "com/example/tuck/tuck/ListWindow", name := "grow", desc := "()V" } : Jvm.MethodName)).before a0 Z = true := hw _ (List.mem_of_getElem? (i := 63) rfl)
theorem own_w64 {Z : State} {a0 : Array Value} (hw : ∀ d ∈ tables_1, d.before a0 Z = true) : (Jvm.Cond.privateMethod ({ cls := "com/example/tuck/tuck/ListWindow", name := "grow", desc := "()V" } : Jvm.MethodName)).before a0 Z = true := hw _ (List.mem_of_getElem? (i := 64) rfl)
theorem own_w65 {Z : State} {a0 : Array Value} (hw : ∀ d ∈ tables_1, d.before a0 Z = true) : (Jvm.Cond.code ({ cls := "com/example/tuck/tuck/ListWindow", name := "grow", desc := "()V" } : Jvm.MethodName) prog_53_method_4_code (7 : Nat) (Option.none : Option Jvm.ClassFile.FieldType)).before a0 Z = true := hw _ (List.mem_of_getElem? (i := 65) rfl)
theorem own_d1_0 : decode prog_53_method_1_code 0 = .ok (.aload_n 0, 1) := by decide +kernel
theorem own_d1_1 : decode prog_53_method_1_code 1 = .ok (.invokespecial 1, 3) := by decide +kernel
theorem own_d1_4 : decode prog_53_method_1_code 4 = .ok (.lconst 1, 1) := by decide +kernel
theorem own_d1_5 : decode prog_53_method_1_code 5 = .ok (.iload_n 1, 1) := by decide +kernel
theorem own_d1_6 : decode prog_53_method_1_code 6 = .ok (.i2l, 1) := by decide +kernel
theorem own_d1_7 : decode prog_53_method_1_code 7 = .ok (.lconst 1, 1) := by decide +kernel
theorem own_d1_8 : decode prog_53_method_1_code 8 = .ok (.ladd, 1) := by decide +kernel
theorem own_d1_9 : decode prog_53_method_1_code 9 = .ok (.iload_n 2, 1) := by decide +kernel
theorem own_d1_10 : decode prog_53_method_1_code 10 = .ok (.i2l, 1) := by decide +kernel
theorem own_d1_11 : decode prog_53_method_1_code 11 = .ok (.invokestatic 7, 3) := by decide +kernel
theorem own_d1_14 : decode prog_53_method_1_code 14 = .ok (.invokestatic 13, 3) := by decide +kernel
theorem own_d1_17 : decode prog_53_method_1_code 17 = .ok (.l2i, 1) := by decide +kernel
theorem own_d1_18 : decode prog_53_method_1_code 18 = .ok (.istore_n 3, 1) := by decide +kernel
theorem own_d1_19 : decode prog_53_method_1_code 19 = .ok (.iload_n 3, 1) := by decide +kernel
theorem own_d1_20 : decode prog_53_method_1_code 20 = .ok (.invokestatic 16, 3) := by decide +kernel
theorem own_d1_23 : decode prog_53_method_1_code 23 = .ok (.istore 4, 2) := by decide +kernel
theorem own_d1_25 : decode prog_53_method_1_code 25 = .ok (.aload_n 0, 1) := by decide +kernel
theorem own_d1_26 : decode prog_53_method_1_code 26 = .ok (.iload 4, 2) := by decide +kernel
theorem own_d1_28 : decode prog_53_method_1_code 28 = .ok (.iload_n 3, 1) := by decide +kernel
theorem own_d1_29 : decode prog_53_method_1_code 29 = .ok (.if_icmp .ge 10, 3) := by decide +kernel
theorem own_d1_32 : decode prog_53_method_1_code 32 = .ok (.iconst 2, 1) := by decide +kernel
theorem own_d1_33 : decode prog_53_method_1_code 33 = .ok (.iload 4, 2) := by decide +kernel
theorem own_d1_35 : decode prog_53_method_1_code 35 = .ok (.imul, 1) := by decide +kernel
theorem own_d1_36 : decode prog_53_method_1_code 36 = .ok (.goto 5, 3) := by decide +kernel
theorem own_d1_39 : decode prog_53_method_1_code 39 = .ok (.iload 4, 2) := by decide +kernel
theorem own_d1_41 : decode prog_53_method_1_code 41 = .ok (.putfield 22, 3) := by decide +kernel
theorem own_d1_44 : decode prog_53_method_1_code 44 = .ok (.aload_n 0, 1) := by decide +kernel
theorem own_d1_45 : decode prog_53_method_1_code 45 = .ok (.aload_n 0, 1) := by decide +kernel
theorem own_d1_46 : decode prog_53_method_1_code 46 = .ok (.getfield 22, 3) := by decide +kernel
theorem own_d1_49 : decode prog_53_method_1_code 49 = .ok (.bipush 64, 2) := by decide +kernel
theorem own_d1_51 : decode prog_53_method_1_code 51 = .ok (.invokestatic 28, 3) := by decide +kernel
theorem own_d1_54 : decode prog_53_method_1_code 54 = .ok (.newarray .int, 2) := by decide +kernel
theorem own_d1_56 : decode prog_53_method_1_code 56 = .ok (.putfield 31, 3) := by decide +kernel
theorem own_d1_59 : decode prog_53_method_1_code 59 = .ok (.aload_n 0, 1) := by decide +kernel
theorem own_d1_60 : decode prog_53_method_1_code 60 = .ok (.aload_n 0, 1) := by decide +kernel
theorem own_d1_61 : decode prog_53_method_1_code 61 = .ok (.getfield 31, 3) := by decide +kernel
theorem own_d1_64 : decode prog_53_method_1_code 64 = .ok (.arraylength, 1) := by decide +kernel
theorem own_d1_65 : decode prog_53_method_1_code 65 = .ok (.anewarray 35, 3) := by decide +kernel
theorem own_d1_68 : decode prog_53_method_1_code 68 = .ok (.putfield 36, 3) := by decide +kernel
theorem own_d1_71 : decode prog_53_method_1_code 71 = .ok (.aload_n 0, 1) := by decide +kernel
theorem own_d1_72 : decode prog_53_method_1_code 72 = .ok (.aload_n 0, 1) := by decide +kernel
theorem own_d1_73 : decode prog_53_method_1_code 73 = .ok (.getfield 31, 3) := by decide +kernel
theorem own_d1_76 : decode prog_53_method_1_code 76 = .ok (.arraylength, 1) := by decide +kernel
theorem own_d1_77 : decode prog_53_method_1_code 77 = .ok (.newarray .int, 2) := by decide +kernel
theorem own_d1_79 : decode prog_53_method_1_code 79 = .ok (.putfield 40, 3) := by decide +kernel
theorem own_d1_82 : decode prog_53_method_1_code 82 = .ok (.aload_n 0, 1) := by decide +kernel
theorem own_d1_83 : decode prog_53_method_1_code 83 = .ok (.getfield 31, 3) := by decide +kernel
theorem own_d1_86 : decode prog_53_method_1_code 86 = .ok (.iconst (-1), 1) := by decide +kernel
theorem own_d1_87 : decode prog_53_method_1_code 87 = .ok (.invokestatic 43, 3) := by decide +kernel
theorem own_d1_90 : decode prog_53_method_1_code 90 = .ok (.return_, 1) := by decide +kernel
theorem own_d3_0 : decode jdk_29_method_70_code 0 = .ok (.lload_n 0, 1) := by decide +kernel
theorem own_d3_1 : decode jdk_29_method_70_code 1 = .ok (.lload_n 2, 1) := by decide +kernel
theorem own_d3_2 : decode jdk_29_method_70_code 2 = .ok (.lcmp, 1) := by decide +kernel
theorem own_d3_3 : decode jdk_29_method_70_code 3 = .ok (.ifCond .gt 7, 3) := by decide +kernel
theorem own_d3_6 : decode jdk_29_method_70_code 6 = .ok (.lload_n 0, 1) := by decide +kernel
theorem own_d3_7 : decode jdk_29_method_70_code 7 = .ok (.goto 4, 3) := by decide +kernel
theorem own_d3_10 : decode jdk_29_method_70_code 10 = .ok (.lload_n 2, 1) := by decide +kernel
theorem own_d3_11 : decode jdk_29_method_70_code 11 = .ok (.lreturn, 1) := by decide +kernel
theorem own_d4_0 : decode jdk_29_method_66_code 0 = .ok (.lload_n 0, 1) := by decide +kernel
theorem own_d4_1 : decode jdk_29_method_66_code 1 = .ok (.lload_n 2, 1) := by decide +kernel
theorem own_d4_2 : decode jdk_29_method_66_code 2 = .ok (.lcmp, 1) := by decide +kernel
theorem own_d4_3 : decode jdk_29_method_66_code 3 = .ok (.ifCond .lt 7, 3) := by decide +kernel
theorem own_d4_6 : decode jdk_29_method_66_code 6 = .ok (.lload_n 0, 1) := by decide +kernel
theorem own_d4_7 : decode jdk_29_method_66_code 7 = .ok (.goto 4, 3) := by decide +kernel
theorem own_d4_10 : decode jdk_29_method_66_code 10 = .ok (.lload_n 2, 1) := by decide +kernel
theorem own_d4_11 : decode jdk_29_method_66_code 11 = .ok (.lreturn, 1) := by decide +kernel
theorem own_d5_0 : decode jdk_33_method_45_code 0 = .ok (.iload_n 0, 1) := by decide +kernel
theorem own_d5_1 : decode jdk_33_method_45_code 1 = .ok (.ldc 127, 2) := by decide +kernel
theorem own_d5_3 : decode jdk_33_method_45_code 3 = .ok (.iload_n 0, 1) := by decide +kernel
theorem own_d5_4 : decode jdk_33_method_45_code 4 = .ok (.invokestatic 51, 3) := by decide +kernel
theorem own_d5_7 : decode jdk_33_method_45_code 7 = .ok (.iushr, 1) := by decide +kernel
theorem own_d5_8 : decode jdk_33_method_45_code 8 = .ok (.iand, 1) := by decide +kernel
theorem own_d5_9 : decode jdk_33_method_45_code 9 = .ok (.ireturn, 1) := by decide +kernel
theorem own_d6_0 : decode jdk_33_method_47_code 0 = .ok (.iload_n 0, 1) := by decide +kernel
theorem own_d6_1 : decode jdk_33_method_47_code 1 = .ok (.ifCond .gt 14, 3) := by decide +kernel
theorem own_d6_15 : decode jdk_33_method_47_code 15 = .ok (.bipush 31, 2) := by decide +kernel
theorem own_d6_17 : decode jdk_33_method_47_code 17 = .ok (.istore_n 1, 1) := by decide +kernel
theorem own_d6_18 : decode jdk_33_method_47_code 18 = .ok (.iload_n 0, 1) := by decide +kernel
theorem own_d6_19 : decode jdk_33_method_47_code 19 = .ok (.ldc_w 264, 3) := by decide +kernel
theorem own_d6_22 : decode jdk_33_method_47_code 22 = .ok (.if_icmp .lt 11, 3) := by decide +kernel
theorem own_d6_33 : decode jdk_33_method_47_code 33 = .ok (.iload_n 0, 1) := by decide +kernel
theorem own_d6_34 : decode jdk_33_method_47_code 34 = .ok (.sipush 256, 3) := by decide +kernel
theorem own_d6_37 : decode jdk_33_method_47_code 37 = .ok (.if_icmp .lt 11, 3) := by decide +kernel
theorem own_d6_48 : decode jdk_33_method_47_code 48 = .ok (.iload_n 0, 1) := by decide +kernel
theorem own_d6_49 : decode jdk_33_method_47_code 49 = .ok (.bipush 16, 2) := by decide +kernel
theorem own_d6_51 : decode jdk_33_method_47_code 51 = .ok (.if_icmp .lt 10, 3) := by decide +kernel
theorem own_d6_54 : decode jdk_33_method_47_code 54 = .ok (.iinc 1 (-4), 3) := by decide +kernel
theorem own_d6_57 : decode jdk_33_method_47_code 57 = .ok (.iload_n 0, 1) := by decide +kernel
theorem own_d6_58 : decode jdk_33_method_47_code 58 = .ok (.iconst 4, 1) := by decide +kernel
theorem own_d6_59 : decode jdk_33_method_47_code 59 = .ok (.iushr, 1) := by decide +kernel
theorem own_d6_60 : decode jdk_33_method_47_code 60 = .ok (.istore_n 0, 1) := by decide +kernel
theorem own_d6_61 : decode jdk_33_method_47_code 61 = .ok (.iload_n 0, 1) := by decide +kernel
theorem own_d6_62 : decode jdk_33_method_47_code 62 = .ok (.iconst 4, 1) := by decide +kernel
theorem own_d6_63 : decode jdk_33_method_47_code 63 = .ok (.if_icmp .lt 10, 3) := by decide +kernel
theorem own_d6_66 : decode jdk_33_method_47_code 66 = .ok (.iinc 1 (-2), 3) := by decide +kernel
theorem own_d6_69 : decode jdk_33_method_47_code 69 = .ok (.iload_n 0, 1) := by decide +kernel
theorem own_d6_70 : decode jdk_33_method_47_code 70 = .ok (.iconst 2, 1) := by decide +kernel
theorem own_d6_71 : decode jdk_33_method_47_code 71 = .ok (.iushr, 1) := by decide +kernel
theorem own_d6_72 : decode jdk_33_method_47_code 72 = .ok (.istore_n 0, 1) := by decide +kernel
theorem own_d6_73 : decode jdk_33_method_47_code 73 = .ok (.iload_n 1, 1) := by decide +kernel
theorem own_d6_74 : decode jdk_33_method_47_code 74 = .ok (.iload_n 0, 1) := by decide +kernel
theorem own_d6_75 : decode jdk_33_method_47_code 75 = .ok (.iconst 1, 1) := by decide +kernel
theorem own_d6_76 : decode jdk_33_method_47_code 76 = .ok (.iushr, 1) := by decide +kernel
theorem own_d6_77 : decode jdk_33_method_47_code 77 = .ok (.isub, 1) := by decide +kernel
theorem own_d6_78 : decode jdk_33_method_47_code 78 = .ok (.ireturn, 1) := by decide +kernel
theorem own_d7_0 : decode jdk_29_method_69_code 0 = .ok (.iload_n 0, 1) := by decide +kernel
theorem own_d7_1 : decode jdk_29_method_69_code 1 = .ok (.iload_n 1, 1) := by decide +kernel
theorem own_d7_2 : decode jdk_29_method_69_code 2 = .ok (.if_icmp .gt 7, 3) := by decide +kernel
theorem own_d7_5 : decode jdk_29_method_69_code 5 = .ok (.iload_n 0, 1) := by decide +kernel
theorem own_d7_6 : decode jdk_29_method_69_code 6 = .ok (.goto 4, 3) := by decide +kernel
theorem own_d7_9 : decode jdk_29_method_69_code 9 = .ok (.iload_n 1, 1) := by decide +kernel
theorem own_d7_10 : decode jdk_29_method_69_code 10 = .ok (.ireturn, 1) := by decide +kernel
theorem own_d8_0 : decode jdk_65_method_103_code 0 = .ok (.iconst 0, 1) := by decide +kernel
theorem own_d8_1 : decode jdk_65_method_103_code 1 = .ok (.istore_n 2, 1) := by decide +kernel
theorem own_d8_2 : decode jdk_65_method_103_code 2 = .ok (.aload_n 0, 1) := by decide +kernel
theorem own_d8_3 : decode jdk_65_method_103_code 3 = .ok (.arraylength, 1) := by decide +kernel
theorem own_d8_4 : decode jdk_65_method_103_code 4 = .ok (.istore_n 3, 1) := by decide +kernel
theorem own_d8_5 : decode jdk_65_method_103_code 5 = .ok (.iload_n 2, 1) := by decide +kernel
theorem own_d8_6 : decode jdk_65_method_103_code 6 = .ok (.iload_n 3, 1) := by decide +kernel
theorem own_d8_7 : decode jdk_65_method_103_code 7 = .ok (.if_icmp .ge 13, 3) := by decide +kernel
theorem own_d8_10 : decode jdk_65_method_103_code 10 = .ok (.aload_n 0, 1) := by decide +kernel
theorem own_d8_11 : decode jdk_65_method_103_code 11 = .ok (.iload_n 2, 1) := by decide +kernel
theorem own_d8_12 : decode jdk_65_method_103_code 12 = .ok (.iload_n 1, 1) := by decide +kernel
theorem own_d8_13 : decode jdk_65_method_103_code 13 = .ok (.iastore, 1) := by decide +kernel
theorem own_d8_14 : decode jdk_65_method_103_code 14 = .ok (.iinc 2 1, 3) := by decide +kernel
theorem own_d8_17 : decode jdk_65_method_103_code 17 = .ok (.goto (-12), 3) := by decide +kernel
theorem own_d8_20 : decode jdk_65_method_103_code 20 = .ok (.return_, 1) := by decide +kernel
theorem own_d9_0 : decode prog_53_method_3_code 0 = .ok (.iload_n 3, 1) := by decide +kernel
theorem own_d9_1 : decode prog_53_method_3_code 1 = .ok (.ifCond .ne 7, 3) := by decide +kernel
theorem own_d9_4 : decode prog_53_method_3_code 4 = .ok (.iconst 0, 1) := by decide +kernel
theorem own_d9_5 : decode prog_53_method_3_code 5 = .ok (.goto 12, 3) := by decide +kernel
theorem own_d9_8 : decode prog_53_method_3_code 8 = .ok (.aload_n 0, 1) := by decide +kernel
theorem own_d9_9 : decode prog_53_method_3_code 9 = .ok (.iload_n 1, 1) := by decide +kernel
theorem own_d9_10 : decode prog_53_method_3_code 10 = .ok (.iload_n 3, 1) := by decide +kernel
theorem own_d9_11 : decode prog_53_method_3_code 11 = .ok (.isub, 1) := by decide +kernel
theorem own_d9_12 : decode prog_53_method_3_code 12 = .ok (.invokevirtual 49, 3) := by decide +kernel
theorem own_d9_15 : decode prog_53_method_3_code 15 = .ok (.iconst 1, 1) := by decide +kernel
theorem own_d9_16 : decode prog_53_method_3_code 16 = .ok (.iadd, 1) := by decide +kernel
theorem own_d9_17 : decode prog_53_method_3_code 17 = .ok (.istore 4, 2) := by decide +kernel
theorem own_d9_19 : decode prog_53_method_3_code 19 = .ok (.iload_n 1, 1) := by decide +kernel
theorem own_d9_20 : decode prog_53_method_3_code 20 = .ok (.aload_n 0, 1) := by decide +kernel
theorem own_d9_21 : decode prog_53_method_3_code 21 = .ok (.getfield 31, 3) := by decide +kernel
theorem own_d9_24 : decode prog_53_method_3_code 24 = .ok (.arraylength, 1) := by decide +kernel
theorem own_d9_25 : decode prog_53_method_3_code 25 = .ok (.iconst 1, 1) := by decide +kernel
theorem own_d9_26 : decode prog_53_method_3_code 26 = .ok (.isub, 1) := by decide +kernel
theorem own_d9_27 : decode prog_53_method_3_code 27 = .ok (.iand, 1) := by decide +kernel
theorem own_d9_28 : decode prog_53_method_3_code 28 = .ok (.istore 5, 2) := by decide +kernel
theorem own_d9_30 : decode prog_53_method_3_code 30 = .ok (.aload_n 0, 1) := by decide +kernel
theorem own_d9_31 : decode prog_53_method_3_code 31 = .ok (.getfield 31, 3) := by decide +kernel
theorem own_d9_34 : decode prog_53_method_3_code 34 = .ok (.iload 5, 2) := by decide +kernel
theorem own_d9_36 : decode prog_53_method_3_code 36 = .ok (.iaload, 1) := by decide +kernel
theorem own_d9_37 : decode prog_53_method_3_code 37 = .ok (.ifCond .lt 33, 3) := by decide +kernel
theorem own_d9_40 : decode prog_53_method_3_code 40 = .ok (.aload_n 0, 1) := by decide +kernel
theorem own_d9_41 : decode prog_53_method_3_code 41 = .ok (.getfield 31, 3) := by decide +kernel
theorem own_d9_44 : decode prog_53_method_3_code 44 = .ok (.arraylength, 1) := by decide +kernel
theorem own_d9_45 : decode prog_53_method_3_code 45 = .ok (.aload_n 0, 1) := by decide +kernel
theorem own_d9_46 : decode prog_53_method_3_code 46 = .ok (.getfield 22, 3) := by decide +kernel
theorem own_d9_49 : decode prog_53_method_3_code 49 = .ok (.if_icmp .ge 21, 3) := by decide +kernel
theorem own_d9_52 : decode prog_53_method_3_code 52 = .ok (.aload_n 0, 1) := by decide +kernel
theorem own_d9_53 : decode prog_53_method_3_code 53 = .ok (.invokevirtual 52, 3) := by decide +kernel
theorem own_d9_56 : decode prog_53_method_3_code 56 = .ok (.iload_n 1, 1) := by decide +kernel
theorem own_d9_57 : decode prog_53_method_3_code 57 = .ok (.aload_n 0, 1) := by decide +kernel
theorem own_d9_58 : decode prog_53_method_3_code 58 = .ok (.getfield 31, 3) := by decide +kernel
theorem own_d9_61 : decode prog_53_method_3_code 61 = .ok (.arraylength, 1) := by decide +kernel
theorem own_d9_62 : decode prog_53_method_3_code 62 = .ok (.iconst 1, 1) := by decide +kernel
theorem own_d9_63 : decode prog_53_method_3_code 63 = .ok (.isub, 1) := by decide +kernel
theorem own_d9_64 : decode prog_53_method_3_code 64 = .ok (.iand, 1) := by decide +kernel
theorem own_d9_65 : decode prog_53_method_3_code 65 = .ok (.istore 5, 2) := by decide +kernel
theorem own_d9_67 : decode prog_53_method_3_code 67 = .ok (.goto (-37), 3) := by decide +kernel
theorem own_d9_70 : decode prog_53_method_3_code 70 = .ok (.aload_n 0, 1) := by decide +kernel
theorem own_d9_71 : decode prog_53_method_3_code 71 = .ok (.getfield 31, 3) := by decide +kernel
theorem own_d9_74 : decode prog_53_method_3_code 74 = .ok (.iload 5, 2) := by decide +kernel
theorem own_d9_76 : decode prog_53_method_3_code 76 = .ok (.iload_n 1, 1) := by decide +kernel
theorem own_d9_77 : decode prog_53_method_3_code 77 = .ok (.iastore, 1) := by decide +kernel
theorem own_d9_78 : decode prog_53_method_3_code 78 = .ok (.aload_n 0, 1) := by decide +kernel
theorem own_d9_79 : decode prog_53_method_3_code 79 = .ok (.getfield 36, 3) := by decide +kernel
theorem own_d9_82 : decode prog_53_method_3_code 82 = .ok (.iload 5, 2) := by decide +kernel
theorem own_d9_84 : decode prog_53_method_3_code 84 = .ok (.aload_n 2, 1) := by decide +kernel
theorem own_d9_85 : decode prog_53_method_3_code 85 = .ok (.aastore, 1) := by decide +kernel
theorem own_d9_86 : decode prog_53_method_3_code 86 = .ok (.aload_n 0, 1) := by decide +kernel
theorem own_d9_87 : decode prog_53_method_3_code 87 = .ok (.getfield 40, 3) := by decide +kernel
theorem own_d9_90 : decode prog_53_method_3_code 90 = .ok (.iload 5, 2) := by decide +kernel
theorem own_d9_92 : decode prog_53_method_3_code 92 = .ok (.iload 4, 2) := by decide +kernel
theorem own_d9_94 : decode prog_53_method_3_code 94 = .ok (.iastore, 1) := by decide +kernel
theorem own_d9_95 : decode prog_53_method_3_code 95 = .ok (.return_, 1) := by decide +kernel
theorem own_d10_0 : decode prog_53_method_6_code 0 = .ok (.iload_n 1, 1) := by decide +kernel
theorem own_d10_1 : decode prog_53_method_6_code 1 = .ok (.aload_n 0, 1) := by decide +kernel
theorem own_d10_2 : decode prog_53_method_6_code 2 = .ok (.getfield 31, 3) := by decide +kernel
theorem own_d10_5 : decode prog_53_method_6_code 5 = .ok (.arraylength, 1) := by decide +kernel
theorem own_d10_6 : decode prog_53_method_6_code 6 = .ok (.iconst 1, 1) := by decide +kernel
theorem own_d10_7 : decode prog_53_method_6_code 7 = .ok (.isub, 1) := by decide +kernel
theorem own_d10_8 : decode prog_53_method_6_code 8 = .ok (.iand, 1) := by decide +kernel
theorem own_d10_9 : decode prog_53_method_6_code 9 = .ok (.istore_n 2, 1) := by decide +kernel
theorem own_d10_10 : decode prog_53_method_6_code 10 = .ok (.iload_n 1, 1) := by decide +kernel
theorem own_d10_11 : decode prog_53_method_6_code 11 = .ok (.ifCond .lt 22, 3) := by decide +kernel
theorem own_d10_14 : decode prog_53_method_6_code 14 = .ok (.aload_n 0, 1) := by decide +kernel
theorem own_d10_15 : decode prog_53_method_6_code 15 = .ok (.getfield 31, 3) := by decide +kernel
theorem own_d10_18 : decode prog_53_method_6_code 18 = .ok (.iload_n 2, 1) := by decide +kernel
theorem own_d10_19 : decode prog_53_method_6_code 19 = .ok (.iaload, 1) := by decide +kernel
theorem own_d10_20 : decode prog_53_method_6_code 20 = .ok (.iload_n 1, 1) := by decide +kernel
theorem own_d10_21 : decode prog_53_method_6_code 21 = .ok (.if_icmp .ne 12, 3) := by decide +kernel
theorem own_d10_24 : decode prog_53_method_6_code 24 = .ok (.aload_n 0, 1) := by decide +kernel
theorem own_d10_25 : decode prog_53_method_6_code 25 = .ok (.getfield 40, 3) := by decide +kernel
theorem own_d10_28 : decode prog_53_method_6_code 28 = .ok (.iload_n 2, 1) := by decide +kernel
theorem own_d10_29 : decode prog_53_method_6_code 29 = .ok (.iaload, 1) := by decide +kernel
theorem own_d10_30 : decode prog_53_method_6_code 30 = .ok (.goto 4, 3) := by decide +kernel
theorem own_d10_33 : decode prog_53_method_6_code 33 = .ok (.iconst 0, 1) := by decide +kernel
theorem own_d10_34 : decode prog_53_method_6_code 34 = .ok (.ireturn, 1) := by decide +kernel
theorem own_d11_0 : decode prog_53_method_2_code 0 = .ok (.aload_n 0, 1) := by decide +kernel
theorem own_d11_1 : decode prog_53_method_2_code 1 = .ok (.getfield 31, 3) := by decide +kernel
theorem own_d11_4 : decode prog_53_method_2_code 4 = .ok (.iconst (-1), 1) := by decide +kernel
theorem own_d11_5 : decode prog_53_method_2_code 5 = .ok (.invokestatic 43, 3) := by decide +kernel
theorem own_d11_8 : decode prog_53_method_2_code 8 = .ok (.return_, 1) := by decide +kernel
theorem own_d12_0 : decode prog_53_method_4_code 0 = .ok (.aload_n 0, 1) := by decide +kernel
theorem own_d12_1 : decode prog_53_method_4_code 1 = .ok (.getfield 31, 3) := by decide +kernel
theorem own_d12_4 : decode prog_53_method_4_code 4 = .ok (.astore_n 1, 1) := by decide +kernel
theorem own_d12_5 : decode prog_53_method_4_code 5 = .ok (.aload_n 0, 1) := by decide +kernel
theorem own_d12_6 : decode prog_53_method_4_code 6 = .ok (.getfield 36, 3) := by decide +kernel
theorem own_d12_9 : decode prog_53_method_4_code 9 = .ok (.astore_n 2, 1) := by decide +kernel
theorem own_d12_10 : decode prog_53_method_4_code 10 = .ok (.aload_n 0, 1) := by decide +kernel
theorem own_d12_11 : decode prog_53_method_4_code 11 = .ok (.getfield 40, 3) := by decide +kernel
theorem own_d12_14 : decode prog_53_method_4_code 14 = .ok (.astore_n 3, 1) := by decide +kernel
theorem own_d12_15 : decode prog_53_method_4_code 15 = .ok (.iconst 2, 1) := by decide +kernel
theorem own_d12_16 : decode prog_53_method_4_code 16 = .ok (.aload_n 1, 1) := by decide +kernel
theorem own_d12_17 : decode prog_53_method_4_code 17 = .ok (.arraylength, 1) := by decide +kernel
theorem own_d12_18 : decode prog_53_method_4_code 18 = .ok (.imul, 1) := by decide +kernel
theorem own_d12_19 : decode prog_53_method_4_code 19 = .ok (.istore 4, 2) := by decide +kernel
theorem own_d12_21 : decode prog_53_method_4_code 21 = .ok (.aload_n 0, 1) := by decide +kernel
theorem own_d12_22 : decode prog_53_method_4_code 22 = .ok (.iload 4, 2) := by decide +kernel
theorem own_d12_24 : decode prog_53_method_4_code 24 = .ok (.newarray .int, 2) := by decide +kernel
theorem own_d12_26 : decode prog_53_method_4_code 26 = .ok (.putfield 31, 3) := by decide +kernel
theorem own_d12_29 : decode prog_53_method_4_code 29 = .ok (.aload_n 0, 1) := by decide +kernel
theorem own_d12_30 : decode prog_53_method_4_code 30 = .ok (.iload 4, 2) := by decide +kernel
theorem own_d12_32 : decode prog_53_method_4_code 32 = .ok (.anewarray 35, 3) := by decide +kernel
theorem own_d12_35 : decode prog_53_method_4_code 35 = .ok (.putfield 36, 3) := by decide +kernel
theorem own_d12_38 : decode prog_53_method_4_code 38 = .ok (.aload_n 0, 1) := by decide +kernel
theorem own_d12_39 : decode prog_53_method_4_code 39 = .ok (.iload 4, 2) := by decide +kernel
theorem own_d12_41 : decode prog_53_method_4_code 41 = .ok (.newarray .int, 2) := by decide +kernel
theorem own_d12_43 : decode prog_53_method_4_code 43 = .ok (.putfield 40, 3) := by decide +kernel
theorem own_d12_46 : decode prog_53_method_4_code 46 = .ok (.aload_n 0, 1) := by decide +kernel
theorem own_d12_47 : decode prog_53_method_4_code 47 = .ok (.getfield 31, 3) := by decide +kernel
theorem own_d12_50 : decode prog_53_method_4_code 50 = .ok (.iconst (-1), 1) := by decide +kernel
theorem own_d12_51 : decode prog_53_method_4_code 51 = .ok (.invokestatic 43, 3) := by decide +kernel
theorem own_d12_54 : decode prog_53_method_4_code 54 = .ok (.iconst 0, 1) := by decide +kernel
theorem own_d12_55 : decode prog_53_method_4_code 55 = .ok (.istore 5, 2) := by decide +kernel
theorem own_d12_57 : decode prog_53_method_4_code 57 = .ok (.iload 5, 2) := by decide +kernel
theorem own_d12_59 : decode prog_53_method_4_code 59 = .ok (.aload_n 1, 1) := by decide +kernel
theorem own_d12_60 : decode prog_53_method_4_code 60 = .ok (.arraylength, 1) := by decide +kernel
theorem own_d12_61 : decode prog_53_method_4_code 61 = .ok (.if_icmp .ge 60, 3) := by decide +kernel
theorem own_d12_64 : decode prog_53_method_4_code 64 = .ok (.aload_n 1, 1) := by decide +kernel
theorem own_d12_65 : decode prog_53_method_4_code 65 = .ok (.iload 5, 2) := by decide +kernel
theorem own_d12_67 : decode prog_53_method_4_code 67 = .ok (.iaload, 1) := by decide +kernel
theorem own_d12_68 : decode prog_53_method_4_code 68 = .ok (.ifCond .lt 47, 3) := by decide +kernel
theorem own_d12_71 : decode prog_53_method_4_code 71 = .ok (.aload_n 1, 1) := by decide +kernel
theorem own_d12_72 : decode prog_53_method_4_code 72 = .ok (.iload 5, 2) := by decide +kernel
theorem own_d12_74 : decode prog_53_method_4_code 74 = .ok (.iaload, 1) := by decide +kernel
theorem own_d12_75 : decode prog_53_method_4_code 75 = .ok (.iload 4, 2) := by decide +kernel
theorem own_d12_77 : decode prog_53_method_4_code 77 = .ok (.iconst 1, 1) := by decide +kernel
theorem own_d12_78 : decode prog_53_method_4_code 78 = .ok (.isub, 1) := by decide +kernel
theorem own_d12_79 : decode prog_53_method_4_code 79 = .ok (.iand, 1) := by decide +kernel
theorem own_d12_80 : decode prog_53_method_4_code 80 = .ok (.istore 6, 2) := by decide +kernel
theorem own_d12_82 : decode prog_53_method_4_code 82 = .ok (.aload_n 0, 1) := by decide +kernel
theorem own_d12_83 : decode prog_53_method_4_code 83 = .ok (.getfield 31, 3) := by decide +kernel
theorem own_d12_86 : decode prog_53_method_4_code 86 = .ok (.iload 6, 2) := by decide +kernel
theorem own_d12_88 : decode prog_53_method_4_code 88 = .ok (.aload_n 1, 1) := by decide +kernel
theorem own_d12_89 : decode prog_53_method_4_code 89 = .ok (.iload 5, 2) := by decide +kernel
theorem own_d12_91 : decode prog_53_method_4_code 91 = .ok (.iaload, 1) := by decide +kernel
theorem own_d12_92 : decode prog_53_method_4_code 92 = .ok (.iastore, 1) := by decide +kernel
theorem own_d12_93 : decode prog_53_method_4_code 93 = .ok (.aload_n 0, 1) := by decide +kernel
theorem own_d12_94 : decode prog_53_method_4_code 94 = .ok (.getfield 36, 3) := by decide +kernel
theorem own_d12_97 : decode prog_53_method_4_code 97 = .ok (.iload 6, 2) := by decide +kernel
theorem own_d12_99 : decode prog_53_method_4_code 99 = .ok (.aload_n 2, 1) := by decide +kernel
theorem own_d12_100 : decode prog_53_method_4_code 100 = .ok (.iload 5, 2) := by decide +kernel
theorem own_d12_102 : decode prog_53_method_4_code 102 = .ok (.aaload, 1) := by decide +kernel
theorem own_d12_103 : decode prog_53_method_4_code 103 = .ok (.aastore, 1) := by decide +kernel
theorem own_d12_104 : decode prog_53_method_4_code 104 = .ok (.aload_n 0, 1) := by decide +kernel
theorem own_d12_105 : decode prog_53_method_4_code 105 = .ok (.getfield 40, 3) := by decide +kernel
theorem own_d12_108 : decode prog_53_method_4_code 108 = .ok (.iload 6, 2) := by decide +kernel
theorem own_d12_110 : decode prog_53_method_4_code 110 = .ok (.aload_n 3, 1) := by decide +kernel
theorem own_d12_111 : decode prog_53_method_4_code 111 = .ok (.iload 5, 2) := by decide +kernel
theorem own_d12_113 : decode prog_53_method_4_code 113 = .ok (.iaload, 1) := by decide +kernel
theorem own_d12_114 : decode prog_53_method_4_code 114 = .ok (.iastore, 1) := by decide +kernel
theorem own_d12_115 : decode prog_53_method_4_code 115 = .ok (.iinc 5 1, 3) := by decide +kernel
theorem own_d12_118 : decode prog_53_method_4_code 118 = .ok (.goto (-61), 3) := by decide +kernel
theorem own_d12_121 : decode prog_53_method_4_code 121 = .ok (.return_, 1) := by decide +kernel
theorem own_pd0 : parseMethodDescriptor "(I)I" = some ⟨[.int], some .int⟩ := by decide +kernel
theorem own_pd1 : parseMethodDescriptor "([II)V" = some ⟨[(.array .int), .int], none⟩ := by decide +kernel
theorem own_pd2 : parseMethodDescriptor "(JJ)J" = some ⟨[.long, .long], some .long⟩ := by decide +kernel
theorem own_pd3 : parseMethodDescriptor "(II)I" = some ⟨[.int, .int], some .int⟩ := by decide +kernel
theorem own_pd4 : parseMethodDescriptor "()V" = some ⟨[], none⟩ := by decide +kernel
theorem own_pd5 : parseMethodDescriptor "(II)V" = some ⟨[.int, .int], none⟩ := by decide +kernel
theorem own_pd6 : parseMethodDescriptor "(I[II)V" = some ⟨[.int, (.array .int), .int], none⟩ := by decide +kernel
theorem own_pn0 : plainName "java/lang/Integer" = true := by first | (simp [plainName, overriddenIn]; done) | decide +kernel
theorem own_pn1 : plainName "java/util/Arrays" = true := by first | (simp [plainName, overriddenIn]; done) | decide +kernel
theorem own_pn2 : plainName "com/example/tuck/tuck/ListWindow" = true := by first | (simp [plainName, overriddenIn]; done) | decide +kernel
theorem own_pn3 : plainName "com/example/tuck/tuck/ListWindowDepthPinLaw" = true := by first | (simp [plainName, overriddenIn]; done) | decide +kernel
theorem own_over {Z s : State} {a0 : Array Value} (hal : Z.vm.Alike s.vm) (w : (Cond.arrayOver (.array .int)).before a0 Z = true) :
    ∃ comp cA k kZ, s.vm.findClass "[I" = some comp ∧ (s.vm.classes.findIdx? fun x => match x.kind with | .array component _ => component == comp | _ => false) = some cA ∧ s.vm.classes[cA]? = some k ∧ k.kind = .array comp (.array .int) ∧ Z.vm.classes[cA]? = some kZ ∧ kZ.kind = .array comp (.array .int) := by
  have e0 : (FieldType.array .int).toString = "[I" := by decide
  simp only [Cond.before, Cond.holds, Cond.value, beq_iff_eq, e0] at w
  cases hc : Z.vm.findClass "[I" with
  | none => simp [hc] at w
  | some comp =>
    simp only [hc, Option.bind_some, Option.bind_eq_some_iff, Option.map_eq_some_iff] at w
    obtain ⟨cA, hi, k, hk, hb⟩ := w
    obtain ⟨hlt, hp, -⟩ := Array.findIdx?_eq_some_iff_getElem.mp hi
    have hkk : Z.vm.classes[cA] = k := (Array.getElem?_eq_some_iff.mp hk).2
    rw [hkk] at hp
    have hkind : k.kind = .array comp (.array .int) := by
      cases hq : k.kind with
      | array component ty => rw [hq] at hb hp; simp at hb hp; rw [hp, hb.1]
      | _ => rw [hq] at hb; simp at hb
    obtain ⟨k', hk', he⟩ := hal.2.2 _ _ hk
    refine ⟨comp, cA, k', k, by rw [hal.findClass]; exact hc, by rw [hal.findIdx?_eqK _ (fun _ => rfl)]; exact hi, hk', by rw [he]; exact hkind, hk, hkind⟩
set_option maxHeartbeats 4000000 in
theorem own_anewA {p : Program} {l : Launch} {e : Env} {R : Room} {s : State} {m : MethodId} {args : Array Value} {below : List Frame} {meth : Method} {c : Code} {T : State} {locs : List Loc} {cells slots : Nat} {Z : State} {a0 : Array Value} {h : Heap} (X : Stand p l e R s m args below meth c T locs cells slots) (hx : p.tables.exec = Jvm.exec) (hZ : Z.Warmed39 s.vm) {own : String} {index : Nat} (hown : s.vm.findClass own = some m.cls) (w1 : (Cond.classLink own index "[I").before a0 Z = true) (w2 : (Cond.arrayOver (.array .int)).before a0 Z = true)
    (eT : T.heap = h) {g : JFrame} (hg : g.method = m) (hd : decode c.code g.pc = .ok (.anewarray index, 3)) {n : Int32} {rest : List Value} (hs : g.stack = .int n :: rest) (hn : ¬ n < 0) {cap : Nat} (hcap : n.toNatClampNeg ≤ cap) (hb : cap * 8 ≤ 536870912) (hc : cells + 1 ≤ R.cells) (hl : slots + cap ≤ R.slots) :
    ∃ T' h' cA, Stand p l e R s m args below meth c T' locs (cells + 1) (slots + cap) ∧ T'.heap = h' ∧ Ext h h' ∧ Arr Z h' h.size (newA cA (.array .int) n) (.array .int) ∧
      ∀ target, Steps p.tables e below (T'.setTop { g with pc := g.pc + 3, stack := .ref h.size :: rest }) target → Steps p.tables e below (T.setTop g) target := by
  subst hg eT
  have hpl : e.platform.magicAccessors = ({} : Platform).magicAccessors := by rw [X.admits.platform]
  obtain ⟨comp, cA, kA, kZ, hcomp, hidx, hkA, hkindA, hkZ, hkindZ⟩ := own_over hZ.alike w2
  obtain ⟨kComp, hkComp, -⟩ := Vm.findClass_spec hcomp
  obtain ⟨cc, hfcc, hcl⟩ := Cond.classLink_spec hown (mv hZ w1 (args := args)) e.platform hpl
  cases hcomp.symm.trans hfcc
  obtain ⟨hg₁, hwarm₁, hready₁⟩ := State.classEntry (e := e) X.warmed hcl
  generalize T.vm.noted g.method.cls index (.cls comp) = vm₁ at hg₁ hwarm₁ hready₁
  have hal : s.vm.Alike vm₁ := hwarm₁.alike
  obtain ⟨kComp₁, hkComp₁, -⟩ := hal.2.2 _ _ hkComp
  obtain ⟨kA₁, hkA₁, heA⟩ := hal.2.2 _ _ hkA
  have hkindA₁ : kA₁.kind = .array comp (.array .int) := by rw [heA]; exact hkindA
  have hidx₁ : (vm₁.classes.findIdx? fun x => match x.kind with | .array component _ => component == comp | _ => false) = some cA := by
    rw [hal.findIdx?_eqK _ (fun _ => rfl)]; exact hidx
  have hlimit : ¬ n.toNatClampNeg > e.platform.arrayLengthLimit := by rw [Launch.admits_arrayLengthLimit X.admits]; omega
  have hheap : ¬ n.toNatClampNeg * componentBytes (.array .int) > e.platform.maxHeapBytes := by
    rw [Launch.admits_maxHeapBytes X.admits]; show ¬ n.toNatClampNeg * 4 > 536870912; omega
  have X₂ := (X.noted hwarm₁).pushed { cls := cA, slots := Array.replicate n.toNatClampNeg .null, vm := .none }
  obtain ⟨hr1, hr2⟩ := X.roomAbove hc (show slots + n.toNatClampNeg ≤ R.slots by omega)
  refine ⟨_, _, cA, X₂.more (Nat.le_refl _) (by simp; omega), rfl, ext_of fun a q => Array.getElem?_push_lt q |>.trans (Array.getElem?_eq_getElem q).symm, ⟨by show (T.heap.push _)[T.heap.size]? = _; simp [newA, defaultValue], ⟨by simp [newA], kZ, hkZ, comp, hkindZ⟩, by simp [newA]⟩, fun target hrest => ?_⟩
  jvm_step X.here [hx, hd, anewarray.wp_cold (e := e) (s := T) (f := g) X.here.top hg₁ hready₁,
    anewarray.wp_ready (e := e) (s := T.setVm vm₁) (f := g) (kc := kComp₁) (k := kA₁) (type := .array .int) X.here.top hready₁ hkComp₁ hidx₁ hkA₁ hkindA₁ rfl hs hn hlimit hheap]
  exact ⟨by show T.heap.size < _; omega, by show T.slotsUsed + _ ≤ _; exact hr2, hrest⟩
theorem own_privsel {Z s : State} {a0 args : Array Value} {y : MethodName} {n : Nat} (hZ : Z.Warmed39 s.vm) (wi : (Cond.instantiable y.cls n).before a0 Z = true) (wp : (Cond.privateMethod y).before a0 Z = true) (wm : (Cond.instanceMethod y).before a0 Z = true) (hy : y.cls ≠ "java/lang/invoke/MethodHandle" ∧ y.cls ≠ "java/lang/invoke/VarHandle") : (Cond.selects y.cls y y).before args s = true := by
  obtain ⟨c, k, h1, h2, -, h4, -⟩ := Cond.instantiable_spec (mvT hZ wi (args := args) : (Cond.instantiable y.cls n).before args s = true)
  exact selects_self_of_private h1 h2 (Bool.or_eq_false_iff.mp h4).1 (Cond.privateMethod_at (mvP hZ wp (args := #[]))) (mvT hZ wm) hy
theorem own_ldcwI {p : Program} {l : Launch} {e : Env} {R : Room} {s : State} {m : MethodId} {args : Array Value} {below : List Frame} {meth : Method} {c : Code} {T : State} {locs : List Loc} {cells slots : Nat} {Q : Option Value → Heap → List Loc → Prop} {k n : Nat} {code : ByteArray} {pc : Nat} {Ls : Array Slot} {st : List Value} {Z : State} {a0 : Array Value} (X : Stand p l e R s m args below meth c T locs cells slots) (hx : p.tables.exec = Jvm.exec) (hby : c.code = code) (hZ : Z.Warmed39 s.vm) {own : String} {i : Nat} {v : Int32} (hown : s.vm.findClass own = some m.cls) (w : (Cond.constant own i v).before a0 Z = true) (hd : decode code pc = .ok (.ldc_w i, 3)) (h : own_G p e below s Q k n (T.setTop (mkF m (pc + 3) Ls (.int v :: st)))) : own_G p e below s Q k n (T.setTop (mkF m pc Ls st)) := own_st (X.ldcwInt hx hown (mvT hZ w) rfl (hb hby hd)) h
def own_up (f : Nat → Int32) (p : Nat) (v : Int32) : Nat → Int32 := fun j => if j = p then v else f j
def own_pw (n : Nat) : Prop := n = 1 ∨ n = 2 ∨ n = 4 ∨ n = 8 ∨ n = 16 ∨ n = 32 ∨ n = 64 ∨ n = 128
def own_ix (n : Nat) (q : Int32) : Nat := (q.toInt % (n : Int)).toNat
theorem own_and_ix {n : Nat} (h : own_pw n) (q : Int32) : (q &&& (n.toInt32 - (1 : Int32))).toInt = ((own_ix n q : Nat) : Int) ∧ own_ix n q < n := by
  rcases h with rfl | rfl | rfl | rfl | rfl | rfl | rfl | rfl
  · have := c_mask q ((1 : Nat).toInt32 - (1 : Int32)) 0 (by decide) (by decide); simp only [show ((2 ^ 0 : Nat) : Int) = 1 from rfl] at this; unfold own_ix; omega
  · have := c_mask q ((2 : Nat).toInt32 - (1 : Int32)) 1 (by decide) (by decide); simp only [show ((2 ^ 1 : Nat) : Int) = 2 from rfl] at this; unfold own_ix; omega
  · have := c_mask q ((4 : Nat).toInt32 - (1 : Int32)) 2 (by decide) (by decide); simp only [show ((2 ^ 2 : Nat) : Int) = 4 from rfl] at this; unfold own_ix; omega
  · have := c_mask q ((8 : Nat).toInt32 - (1 : Int32)) 3 (by decide) (by decide); simp only [show ((2 ^ 3 : Nat) : Int) = 8 from rfl] at this; unfold own_ix; omega
  · have := c_mask q ((16 : Nat).toInt32 - (1 : Int32)) 4 (by decide) (by decide); simp only [show ((2 ^ 4 : Nat) : Int) = 16 from rfl] at this; unfold own_ix; omega
  · have := c_mask q ((32 : Nat).toInt32 - (1 : Int32)) 5 (by decide) (by decide); simp only [show ((2 ^ 5 : Nat) : Int) = 32 from rfl] at this; unfold own_ix; omega
  · have := c_mask q ((64 : Nat).toInt32 - (1 : Int32)) 6 (by decide) (by decide); simp only [show ((2 ^ 6 : Nat) : Int) = 64 from rfl] at this; unfold own_ix; omega
  · have := c_mask q ((128 : Nat).toInt32 - (1 : Int32)) 7 (by decide) (by decide); simp only [show ((2 ^ 7 : Nat) : Int) = 128 from rfl] at this; unfold own_ix; omega
def own_dep (n : Nat) (V D : Nat → Int32) (q : Int32) : Int32 := if q < (0 : Int32) then 0 else if V (own_ix n q) = q then D (own_ix n q) else 0
/-- the window's places: each empty or held by a vertex whose place it is -/
def own_In (n : Nat) (V : Nat → Int32) : Prop := ∀ p, p < n → (V p).toInt < 0 ∨ own_ix n (V p) = p
def own_gv (V : Nat → Int32) : Nat → (Nat → Int32)
  | 0 => fun _ => -1
  | i + 1 => if V i < (0 : Int32) then own_gv V i else own_up (own_gv V i) (own_ix 128 (V i)) (V i)
def own_gd (V D : Nat → Int32) : Nat → (Nat → Int32)
  | 0 => fun _ => 0
  | i + 1 => if V i < (0 : Int32) then own_gd V D i else own_up (own_gd V D i) (own_ix 128 (V i)) (D i)
theorem own_ix_half (q : Int32) : own_ix 128 q % 64 = own_ix 64 q ∧ own_ix 128 q < 128 := by unfold own_ix; omega
theorem own_gv_eq {V D : Nat → Int32} (hI : own_In 64 V) : ∀ i, i ≤ 64 → ∀ p, p < 128 → (own_gv V i p = if p % 64 < i ∧ ¬ V (p % 64) < (0 : Int32) ∧ own_ix 128 (V (p % 64)) = p then V (p % 64) else -1) ∧ (own_gd V D i p = if p % 64 < i ∧ ¬ V (p % 64) < (0 : Int32) ∧ own_ix 128 (V (p % 64)) = p then D (p % 64) else 0)
  | 0, _, p, _ => by rw [if_neg (by omega), if_neg (by omega)]; exact ⟨rfl, rfl⟩
  | i + 1, hi, p, hp => by
    have ih := own_gv_eq (D := D) hI i (by omega) p hp
    by_cases hv : V i < (0 : Int32)
    · have e1 : own_gv V (i + 1) = own_gv V i := if_pos hv
      have e2 : own_gd V D (i + 1) = own_gd V D i := if_pos hv
      rw [e1, e2, ih.1, ih.2]
      have ec : (p % 64 < i ∧ ¬ V (p % 64) < (0 : Int32) ∧ own_ix 128 (V (p % 64)) = p) ↔ (p % 64 < i + 1 ∧ ¬ V (p % 64) < (0 : Int32) ∧ own_ix 128 (V (p % 64)) = p) := by
        constructor
        · rintro ⟨a, b, c⟩; exact ⟨by omega, b, c⟩
        · rintro ⟨a, b, c⟩
          refine ⟨?_, b, c⟩
          by_cases z : p % 64 = i
          · rw [z] at b; exact absurd hv b
          · omega
      simp only [ec]; exact ⟨trivial, trivial⟩
    · have e1 : own_gv V (i + 1) = own_up (own_gv V i) (own_ix 128 (V i)) (V i) := if_neg hv
      have e2 : own_gd V D (i + 1) = own_up (own_gd V D i) (own_ix 128 (V i)) (D i) := if_neg hv
      have hh := own_ix_half (V i)
      have hix : own_ix 64 (V i) = i := (hI i (by omega)).resolve_left (fun q => hv (by rw [Int32.lt_iff_toInt_lt]; exact q))
      rw [e1, e2]; unfold own_up
      by_cases z : p = own_ix 128 (V i)
      · have z2 : p % 64 = i := by omega
        rw [if_pos z, if_pos z, z2, if_pos ⟨by omega, hv, z.symm⟩, if_pos ⟨by omega, hv, z.symm⟩]; exact ⟨rfl, rfl⟩
      · rw [if_neg z, if_neg z, ih.1, ih.2]
        have ec : (p % 64 < i ∧ ¬ V (p % 64) < (0 : Int32) ∧ own_ix 128 (V (p % 64)) = p) ↔ (p % 64 < i + 1 ∧ ¬ V (p % 64) < (0 : Int32) ∧ own_ix 128 (V (p % 64)) = p) := by
          constructor
          · rintro ⟨a, b, c⟩; exact ⟨by omega, b, c⟩
          · rintro ⟨a, b, c⟩
            refine ⟨?_, b, c⟩
            by_cases y : p % 64 = i
            · rw [y] at c; exact absurd c.symm z
            · omega
        simp only [ec]; exact ⟨trivial, trivial⟩
theorem own_grow {V D : Nat → Int32} (hI : own_In 64 V) : own_In 128 (own_gv V 64) ∧ ∀ q, own_dep 128 (own_gv V 64) (own_gd V D 64) q = own_dep 64 V D q := by
  constructor
  · intro p hp
    rw [(own_gv_eq (D := D) hI 64 (Nat.le_refl _) p hp).1]
    split
    · rename_i h; exact Or.inr h.2.2
    · exact Or.inl (by decide)
  · intro q
    unfold own_dep
    by_cases hq : q < (0 : Int32)
    · rw [if_pos hq, if_pos hq]
    · rw [if_neg hq, if_neg hq]
      have hh := own_ix_half q
      obtain ⟨g1, g2⟩ := own_gv_eq (D := D) hI 64 (Nat.le_refl _) (own_ix 128 q) hh.2
      rw [g1, g2, hh.1]
      by_cases C : own_ix 64 q < 64 ∧ ¬ V (own_ix 64 q) < (0 : Int32) ∧ own_ix 128 (V (own_ix 64 q)) = own_ix 128 q
      · rw [if_pos C, if_pos C]
      · rw [if_neg C, if_neg C]
        have e : ¬ V (own_ix 64 q) = q := fun e => C ⟨by unfold own_ix; omega, by rw [e]; exact hq, by rw [e]⟩
        rw [if_neg e, if_neg (fun z => hq (by rw [← z]; decide))]
/-- what keep(v, .., depth d) does to what the window says of each vertex -/
def own_Kp (lim : Int32) (n : Nat) (V D : Nat → Int32) (v d : Int32) (n' : Nat) (V' D' : Nat → Int32) : Prop :=
  own_In n' V' ∧ own_dep n' V' D' v = d ∧ ∀ q, q ≠ v → own_dep n' V' D' q = own_dep n V D q ∨ (own_dep n' V' D' q = 0 ∧ ¬ q < (0 : Int32) ∧ q.toInt % lim.toInt = v.toInt % lim.toInt)
theorem own_put {lim : Int32} {n : Nat} {V D : Nat → Int32} {v d : Int32} (hn : 0 < n) (hI : own_In n V) (hv : ¬ v < (0 : Int32)) (hl : lim.toInt = n ∨ (V (own_ix n v)).toInt < 0) :
    own_Kp lim n V D v d n (own_up V (own_ix n v) v) (own_up D (own_ix n v) d) := by
  refine ⟨fun p hp => ?_, ?_, fun q hq => ?_⟩
  · unfold own_up
    by_cases e : p = own_ix n v
    · rw [if_pos e]; exact Or.inr e.symm
    · rw [if_neg e]; exact hI p hp
  · unfold own_dep own_up; rw [if_neg hv, if_pos rfl, if_pos rfl, if_pos rfl]
  · by_cases hq0 : q < (0 : Int32)
    · left; unfold own_dep; rw [if_pos hq0, if_pos hq0]
    · by_cases e : own_ix n q = own_ix n v
      · have z : own_dep n (own_up V (own_ix n v) v) (own_up D (own_ix n v) d) q = 0 := by
          unfold own_dep own_up; rw [if_neg hq0, e, if_pos rfl, if_neg (fun y => hq y.symm)]
        rcases hl with hl | hl
        · right
          refine ⟨z, hq0, ?_⟩
          rw [hl]; unfold own_ix at e
          have a := Int.emod_nonneg q.toInt (show (n : Int) ≠ 0 by omega); have b := Int.emod_nonneg v.toInt (show (n : Int) ≠ 0 by omega)
          omega
        · left
          rw [z]; unfold own_dep; rw [if_neg hq0, if_neg]
          intro y; rw [e] at y; rw [y] at hl; apply hq0; rw [Int32.lt_iff_toInt_lt]; exact hl
      · left; unfold own_dep own_up; rw [if_neg hq0, if_neg hq0, if_neg e, if_neg e]
theorem own_put2 {lim : Int32} {V D : Nat → Int32} {v d : Int32} (hI : own_In 64 V) (hv : ¬ v < (0 : Int32)) (hl : lim.toInt = (128 : Nat)) :
    own_Kp lim 64 V D v d 128 (own_up (own_gv V 64) (own_ix 128 v) v) (own_up (own_gd V D 64) (own_ix 128 v) d) := by
  obtain ⟨g1, g2⟩ := own_grow (D := D) hI
  obtain ⟨a, b, c⟩ := own_put (D := own_gd V D 64) (d := d) (by decide) g1 hv (Or.inl hl)
  exact ⟨a, b, fun q hq => by rw [← g2 q]; exact c q hq⟩
theorem own_dep_empty (n : Nat) (D : Nat → Int32) (q : Int32) : own_dep n (fun _ => -1) D q = 0 := by
  unfold own_dep
  by_cases h : q < (0 : Int32)
  · rw [if_pos h]
  · rw [if_neg h, if_neg (fun z => h (by rw [← z]; show (-1 : Int32) < 0; decide))]
theorem own_In_empty (n : Nat) : own_In n (fun _ => -1) := fun p _ => Or.inl (by show (-1 : Int32).toInt < 0; decide)
/-- java's Integer.numberOfLeadingZeros, below 256 -/
def own_nlz (x : Int32) : Int32 := if x < (16 : Int32) then (if x < (4 : Int32) then (31 : Int32) - ((x.toUInt32 >>> ((1 : Int32) &&& 31).toUInt32).toInt32) else (29 : Int32) - ((((x.toUInt32 >>> ((2 : Int32) &&& 31).toUInt32).toInt32).toUInt32 >>> ((1 : Int32) &&& 31).toUInt32).toInt32)) else (if ((x.toUInt32 >>> ((4 : Int32) &&& 31).toUInt32).toInt32) < (4 : Int32) then (27 : Int32) - ((((x.toUInt32 >>> ((4 : Int32) &&& 31).toUInt32).toInt32).toUInt32 >>> ((1 : Int32) &&& 31).toUInt32).toInt32) else (25 : Int32) - ((((((x.toUInt32 >>> ((4 : Int32) &&& 31).toUInt32).toInt32).toUInt32 >>> ((2 : Int32) &&& 31).toUInt32).toInt32).toUInt32 >>> ((1 : Int32) &&& 31).toUInt32).toInt32))
def own_hob (x : Int32) : Int32 := x &&& (((-2147483648 : Int32).toUInt32 >>> ((own_nlz x) &&& 31).toUInt32).toInt32)
def own_lm (x : Int32) : Int32 := if own_hob x < x then (2 : Int32) * own_hob x else own_hob x
theorem own_lm_dec : ∀ i : Fin 128, own_pw (own_lm (Int32.ofNat (i.1 + 1))).toInt.toNat ∧ ((i.1 + 1 : Nat) : Int) ≤ (own_lm (Int32.ofNat (i.1 + 1))).toInt ∧ (own_hob (Int32.ofNat (i.1 + 1)) < Int32.ofNat (i.1 + 1) → own_lm (Int32.ofNat (i.1 + 1)) = (2 : Int32) * own_hob (Int32.ofNat (i.1 + 1))) := by unfold own_pw; decide +kernel
theorem own_lm_ok {x : Int32} (h1 : 1 ≤ x.toInt) (h2 : x.toInt ≤ 128) : own_pw (own_lm x).toInt.toNat ∧ x.toInt ≤ (own_lm x).toInt := by
  have e : x = Int32.ofNat ((x.toInt.toNat - 1) + 1) := Int32.toInt_inj.mp (by rw [Int32.toInt_ofNat_small (by omega)]; omega)
  have q := own_lm_dec ⟨x.toInt.toNat - 1, by omega⟩
  simp only at q
  rw [← e] at q
  exact ⟨q.1, by have := q.2.1; omega⟩
def own_minJ (x y : Int64) : Int64 := if y < x then y else x
def own_maxJ (x y : Int64) : Int64 := if x < y then y else x
def own_minI (x y : Int32) : Int32 := if y < x then y else x
def own_need (w c : Int32) : Int32 := (own_maxJ (1 : Int64) (own_minJ (w.toInt64 + (1 : Int64)) c.toInt64)).toInt32
theorem own_need_eq {w c : Int32} (h1 : 0 ≤ w.toInt) (h2 : w.toInt ≤ 127) (h3 : 1 ≤ c.toInt) : (own_need w c).toInt = min (w.toInt + 1) c.toInt := by
  have a1 := c_i2l w; have a2 := c_i2l c; have a3 := c_ladd w.toInt64 (1 : Int64); have a4 := rng64 (w.toInt64 + (1 : Int64)); have a5 : (1 : Int64).toInt = 1 := by decide
  have r := rng32 c
  have e1 : (w.toInt64 + (1 : Int64)).toInt = w.toInt + 1 := by omega
  have key : (own_maxJ (1 : Int64) (own_minJ (w.toInt64 + (1 : Int64)) c.toInt64)).toInt = min (w.toInt + 1) c.toInt := by
    have m1 : (own_minJ (w.toInt64 + (1 : Int64)) c.toInt64).toInt = min (w.toInt + 1) c.toInt := by
      unfold own_minJ; split <;> rename_i q <;> rw [Int64.lt_iff_toInt_lt] at q <;> omega
    unfold own_maxJ; split <;> rename_i q <;> rw [Int64.lt_iff_toInt_lt] at q <;> omega
  have q := c_l2i (own_maxJ (1 : Int64) (own_minJ (w.toInt64 + (1 : Int64)) c.toInt64)); have r2 := rng32 (own_need w c)
  show (own_need w c).toInt = _
  unfold own_need at r2 ⊢; omega
theorem own_pw_pos {n : Nat} (h : own_pw n) : 0 < n ∧ n ≤ 128 := by unfold own_pw at h; omega
def own_fl (G : Nat → Int32) (v : Int32) (i : Nat) : Nat → Int32 := fun j => if j < i then v else G j
theorem own_inc {k : Int32} {i : Nat} (h : k.toInt = ((i : Nat) : Int)) (q : i < 1000) : (k + (1 : Int32)).toInt = ((i + 1 : Nat) : Int) := by
  have a := c_iadd k (1 : Int32); have r := rng32 (k + (1 : Int32))
  simp only [Int32.reduceToInt] at a; omega
theorem own_fl_set (G : Nat → Int32) (v : Int32) (i : Nat) {n : Nat} : ∀ j, j < n → own_set (fun j => Value.int (own_fl G v i j)) i (.int v) j = Value.int (own_fl G v (i + 1) j) := by
  intro j _
  simp only [own_set, own_fl]
  by_cases e1 : j = i
  · rw [if_pos e1, if_pos (by omega)]
  · rw [if_neg e1]
    by_cases e2 : j < i
    · rw [if_pos e2, if_pos (by omega)]
    · rw [if_neg e2, if_neg (by omega)]
theorem own_min64 {lm : Int32} (h : own_pw lm.toInt.toNat) {n : Nat} (e : n = (own_minI lm (64 : Int32)).toInt.toNat) : (own_minI lm (64 : Int32)).toInt = (n : Int) ∧ n ≤ 64 ∧ own_pw n ∧ (lm.toInt = (n : Int) ∨ (n = 64 ∧ lm.toInt = (128 : Nat))) := by
  have a64 : (64 : Int32).toInt = 64 := by decide
  have hp := own_pw_pos h
  unfold own_minI at e ⊢
  by_cases q : (64 : Int32) < lm
  · rw [if_pos q] at e ⊢
    rw [Int32.lt_iff_toInt_lt] at q
    rw [a64] at e ⊢
    have : n = 64 := by omega
    subst this
    refine ⟨rfl, Nat.le_refl _, by unfold own_pw; omega, Or.inr ⟨rfl, ?_⟩⟩
    unfold own_pw at h; omega
  · rw [if_neg q] at e ⊢
    rw [Int32.lt_iff_toInt_lt] at q
    refine ⟨by omega, by omega, by rw [e]; exact h, Or.inl (by omega)⟩
theorem own_small {n : Nat} (h : n ≤ 128) : n.toInt32.toInt = (n : Int) ∧ ¬ n.toInt32 < 0 ∧ n.toInt32.toNatClampNeg = n := by
  have e : n.toInt32.toInt = (n : Int) := len_toInt (by omega)
  refine ⟨e, by rw [Int32.lt_iff_toInt_lt, e]; simp only [Int32.reduceToInt]; omega, by simp only [Int32.toNatClampNeg, e]; omega⟩
theorem own_natc {x : Int32} {n : Nat} (h : x.toInt = (n : Int)) : ¬ x < 0 ∧ x.toNatClampNeg = n := by
  refine ⟨by rw [Int32.lt_iff_toInt_lt, h]; simp only [Int32.reduceToInt]; omega, by simp only [Int32.toNatClampNeg, h]; omega⟩
def own_dn (n : Nat) (V D : Nat → Int32) (v r : Int32) : Int32 := if r = (0 : Int32) then 0 else own_dep n V D (v - r) + (1 : Int32)
theorem own_nc {u v L : Int} (h1 : u < v) (h2 : v - u < L) (h : u % L = v % L) : False := by
  have e : (v - u) % L = 0 := by rw [Int.sub_emod, h, Int.sub_self, Int.zero_emod]
  rw [Int.emod_eq_of_lt (by omega) h2] at e; omega
def own_d1 (cl v0 r1 t1 d0 : Int32) : Int32 := if r1 = (0 : Int32) then 0 else if t1 = v0 then (if cl = (0 : Int32) then d0 + (1 : Int32) else 1) else 1
def own_d2 (cl v0 v1 r2 t2 d0 d1 : Int32) : Int32 := if r2 = (0 : Int32) then 0 else if t2 = v1 then d1 + (1 : Int32) else if t2 = v0 then (if cl = (0 : Int32) then d0 + (1 : Int32) else 1) else 1
def own_d0 (r0 : Int32) : Int32 := if r0 = (0 : Int32) then 0 else 1
theorem own_sub_eq {v r : Int32} (h1 : 0 ≤ v.toInt) (h2 : 0 ≤ r.toInt) : (v - r).toInt = v.toInt - r.toInt := by
  have a := c_isub v r; have b := rng32 (v - r); have c := rng32 v; have d := rng32 r; omega
theorem own_stage1 {lim v0 r0 : Int32} {n n1 : Nat} {D V1 D1 : Nat → Int32} (K : own_Kp lim n (fun _ => (-1 : Int32)) D v0 (own_dn n (fun _ => (-1 : Int32)) D v0 r0) n1 V1 D1) (q : Int32) : own_dep n1 V1 D1 q = if q = v0 then own_d0 r0 else 0 := by
  have e : own_dn n (fun _ => (-1 : Int32)) D v0 r0 = own_d0 r0 := by
    unfold own_dn own_d0
    by_cases h : r0 = (0 : Int32)
    · rw [if_pos h, if_pos h]
    · rw [if_neg h, if_neg h, own_dep_empty]; rfl
  by_cases h : q = v0
  · rw [if_pos h, h, K.2.1, e]
  · rw [if_neg h]
    rcases K.2.2 q h with z | z
    · rw [z, own_dep_empty]
    · exact z.1
theorem own_law3 {lim ww v0 v1 v2 cnt r1 r2 d0 d1 d2 cl : Int32} {nA n2 n3 : Nat} {VA DA V2 D2 V3 D3 : Nat → Int32} (hw1 : 0 ≤ ww.toInt) (hw2 : ww.toInt ≤ 127) (a0 : 0 ≤ v0.toInt) (a1 : v0.toInt < v1.toInt) (a2 : v1.toInt < v2.toInt) (a3 : v2.toInt < cnt.toInt) (b1 : 0 ≤ r1.toInt ∧ r1.toInt ≤ ww.toInt) (b2 : 0 ≤ r2.toInt ∧ r2.toInt ≤ ww.toInt) (hlim : min (ww.toInt + 1) cnt.toInt ≤ lim.toInt)
    (hA : ∀ q, own_dep nA VA DA q = if q = v0 ∧ cl = (0 : Int32) then d0 else 0) (K2 : own_Kp lim nA VA DA v1 (own_dn nA VA DA v1 r1) n2 V2 D2) (K3 : own_Kp lim n2 V2 D2 v2 (own_dn n2 V2 D2 v2 r2) n3 V3 D3)
    (hd1 : d1 = own_d1 cl v0 r1 (v1 - r1) d0) (hd2 : d2 = own_d2 cl v0 v1 r2 (v2 - r2) d0 d1) (q : Int32) :
    (q = v2 → own_dep n3 V3 D3 q = d2) ∧ (¬ q = v2 → q = v1 → (¬ q < v2 - ww → own_dep n3 V3 D3 q = d1) ∧ (own_dep n3 V3 D3 q = 0 ∨ own_dep n3 V3 D3 q = d1)) ∧ (¬ q = v2 → ¬ q = v1 → q = v0 → cl = (0 : Int32) → (¬ q < v2 - ww → own_dep n3 V3 D3 q = d0) ∧ (own_dep n3 V3 D3 q = 0 ∨ own_dep n3 V3 D3 q = d0)) ∧ (¬ q = v2 → ¬ q = v1 → ¬ (q = v0 ∧ cl = (0 : Int32)) → own_dep n3 V3 D3 q = 0) := by
  have n01 : ¬ v0 = v1 := fun e => by rw [e] at a1; omega
  have n02 : ¬ v0 = v2 := fun e => by rw [e] at a1; omega
  have n12 : ¬ v1 = v2 := fun e => by rw [e] at a2; omega
  have e1 : own_dn nA VA DA v1 r1 = d1 := by
    rw [hd1]; unfold own_dn own_d1
    by_cases h : r1 = (0 : Int32)
    · rw [if_pos h, if_pos h]
    · rw [if_neg h, if_neg h, hA]
      by_cases h2 : v1 - r1 = v0
      · rw [if_pos h2]
        by_cases h3 : cl = (0 : Int32)
        · rw [if_pos ⟨h2, h3⟩, if_pos h3]
        · rw [if_neg (fun z => h3 z.2), if_neg h3]; rfl
      · rw [if_neg (fun z => h2 z.1), if_neg h2]; rfl
  rw [e1] at K2
  have L21 : own_dep n2 V2 D2 v1 = d1 := K2.2.1
  have L2 : ∀ q, ¬ q = v1 → ¬ (q = v0 ∧ cl = (0 : Int32)) → own_dep n2 V2 D2 q = 0 := fun q h h' => by
    rcases K2.2.2 q h with z | z
    · rw [z, hA, if_neg h']
    · exact z.1
  have L20 : cl = (0 : Int32) → own_dep n2 V2 D2 v0 = d0 ∨ (own_dep n2 V2 D2 v0 = 0 ∧ v0.toInt % lim.toInt = v1.toInt % lim.toInt) := fun h => by
    rcases K2.2.2 v0 n01 with z | z
    · left; rw [z, hA, if_pos ⟨rfl, h⟩]
    · right; exact ⟨z.1, z.2.2⟩
  have L20' : cl = (0 : Int32) → v2.toInt - v0.toInt ≤ ww.toInt → own_dep n2 V2 D2 v0 = d0 := fun h h' => by
    rcases L20 h with z | z
    · exact z
    · exact (own_nc a1 (by omega) z.2).elim
  have e2 : own_dn n2 V2 D2 v2 r2 = d2 := by
    rw [hd2]; unfold own_dn own_d2
    by_cases h : r2 = (0 : Int32)
    · rw [if_pos h, if_pos h]
    · rw [if_neg h, if_neg h]
      have hs := own_sub_eq (v := v2) (r := r2) (by omega) b2.1
      by_cases h1 : v2 - r2 = v1
      · rw [if_pos h1, h1, L21]
      · rw [if_neg h1]
        by_cases h2 : v2 - r2 = v0
        · rw [if_pos h2]
          by_cases h3 : cl = (0 : Int32)
          · rw [if_pos h3, h2, L20' h3 (by rw [h2] at hs; omega)]
          · rw [if_neg h3, L2 _ h1 (fun z => h3 z.2)]; rfl
        · rw [if_neg h2, L2 _ h1 (fun z => h2 z.1)]; rfl
  rw [e2] at K3
  have hs := own_sub_eq (v := v2) (r := ww) (by omega) hw1
  refine ⟨fun h => by rw [h]; exact K3.2.1, fun h h' => ?_, fun h h1 h' hc => ?_, fun h h1 h' => ?_⟩
  · rw [h']
    rcases K3.2.2 v1 n12 with z | z
    · rw [z, L21]; exact ⟨fun _ => rfl, Or.inr rfl⟩
    · refine ⟨fun hr => ?_, Or.inl z.1⟩
      rw [Int32.lt_iff_toInt_lt, hs] at hr
      exact (own_nc a2 (by omega) z.2.2).elim
  · rw [h']
    rcases K3.2.2 v0 n02 with z | z
    · rw [z]
      refine ⟨fun hr => ?_, ?_⟩
      · rw [Int32.lt_iff_toInt_lt, hs] at hr; exact L20' hc (by omega)
      · rcases L20 hc with y | y
        · exact Or.inr y
        · exact Or.inl y.1
    · refine ⟨fun hr => ?_, Or.inl z.1⟩
      rw [Int32.lt_iff_toInt_lt, hs] at hr
      exact (own_nc (by omega) (by omega) z.2.2).elim
  · rcases K3.2.2 q h with z | z
    · rw [z]; exact L2 q h1 h'
    · exact z.1
theorem own_add1 {a b : Int32} (h1 : 0 ≤ a.toInt) (h2 : a.toInt ≤ 1200000000) (h3 : 0 ≤ b.toInt) (h4 : b.toInt ≤ 255) : (a + (1 : Int32) + b).toInt = a.toInt + 1 + b.toInt := by
  have q1 := c_iadd a (1 : Int32); have q2 := c_iadd (a + (1 : Int32)) b; have r1 := rng32 (a + (1 : Int32)); have r2 := rng32 (a + (1 : Int32) + b)
  simp only [Int32.reduceToInt] at q1; omega
theorem own_wp1 {a : Int32} (h1 : 0 ≤ a.toInt) (h2 : a.toInt ≤ 127) : (a + (1 : Int32)).toInt = a.toInt + 1 ∧ ¬ a + (1 : Int32) = 0 := by
  have q1 := c_iadd a (1 : Int32); have r1 := rng32 (a + (1 : Int32))
  simp only [Int32.reduceToInt] at q1
  have e : (a + (1 : Int32)).toInt = a.toInt + 1 := by omega
  exact ⟨e, fun z => by rw [z, show (0 : Int32).toInt = 0 from by decide] at e; omega⟩
theorem own_rem {x a : Int32} (h0 : 0 ≤ x.toInt) (h1 : 0 ≤ a.toInt) (h2 : a.toInt ≤ 127) : 0 ≤ (x % (a + (1 : Int32))).toInt ∧ (x % (a + (1 : Int32))).toInt ≤ a.toInt := by
  have e := (own_wp1 h1 h2).1
  have q := (c_iremV x (a + (1 : Int32))).1 h0 (by omega); omega

def own_rmMinJ_Q (Z : State) (x0 : Int64) (x1 : Int64)  (h0 : Heap) (n0 : Nat) : Option Value → Heap → List Loc → Prop := fun v h L => v = some (Value.long (own_minJ x0 x1)) ∧ h = h0 ∧ Fr n0 L
theorem own_rmMinJ_ef (m : MethodId) (x0 : Int64) (x1 : Int64)  : entryFrame m #[(Value.long x0), (Value.long x1)] 4 = mkF m 0 #[.val (Value.long x0), .second, .val (Value.long x1), .second] [] := by first | (simp [entryFrame, mkF, argsToLocals, Value.category]; done) | rfl
set_option maxRecDepth 65536 in
set_option maxHeartbeats 40000000 in
theorem own_rmMinJ (l : Launch) (Z : State) (a0 : Array Value) (hw : ∀ d ∈ tables_1, d.before a0 Z = true) (ws : List Jvm.Cond) (x0 : Int64) (x1 : Int64)  (h0 : Heap) (n0 : Nat) (O0 : Old Z n0 h0)  :
    MetFree l (⟨"java/lang/Math", "min", "(JJ)J"⟩ : MethodName) (head1 (Jvm.Cond.code (⟨"java/lang/Math", "min", "(JJ)J"⟩ : MethodName) jdk_29_method_70_code 4 (some .long) :: ws) ({ frames := 0, cells := 0, slots := 0, locals := 0 } : Room)) (fun aa_ U => aa_ = #[(Value.long x0), (Value.long x1)] ∧ Z.Warmed39 U.vm ∧ U.heap = h0) (fun _ _ _ _ _ => True) (fun _ UU_ oo_ UX_ => ∃ vv_ LL_, oo_ = .returned vv_ ∧ (own_rmMinJ_Q Z x0 x1 h0 n0) vv_ UX_.heap LL_ ∧ FrameEnd UU_ oo_ UX_ LL_ ({ frames := 0, cells := 0, slots := 0, locals := 0 } : Room).cells ({ frames := 0, cells := 0, slots := 0, locals := 0 } : Room).slots) := by
  refine MetFree.of_bodySF (Jvm.Free.JP.mathPlain rfl (by decide +kernel)) hisR ?_
  intro p e s m args below meth c s₁ Bd hml0 hP hK
  obtain ⟨rfl, hZ, hh⟩ := hP
  have hx := Bd.exec
  have hby := Bd.bytes
  have hml : c.maxLocals = 4 := hml0
  have hown : s.vm.findClass "java/lang/Math" = some m.cls := findClass_of_methodNamed Bd.named
  have hnm := (name_of_methodNamed Bd.named Bd.method).1
  have hlk : meth.locks = false := BodyLoose.notSynchronized Bd
  have X0 : Stand p l e ({ frames := 0, cells := 0, slots := 0, locals := 0 } : Room) s m #[(Value.long x0), (Value.long x1)] below meth c s₁ [] 0 0 := Stand.of_body Bd
  have e0 : s₁.heap = h0 := by rw [← hh, Bd.state]; rfl
  have N0 := Fr.nil n0
  show own_G p e below s (own_rmMinJ_Q Z x0 x1 h0 n0) ({ frames := 0, cells := 0, slots := 0, locals := 0 } : Room).cells ({ frames := 0, cells := 0, slots := 0, locals := 0 } : Room).slots (s₁.setTop (entryFrame m #[(Value.long x0), (Value.long x1)] 4))
  refine own_cast (own_rmMinJ_ef m x0 x1 ) ?_
  show own_G p e below s _ _ _ (s₁.setTop (mkF m 0 #[.val (Value.long x0), .second, .val (Value.long x1), .second] []))
  refine own_lloadN X0 hx hby own_d3_0 rfl ?_
  show own_G p e below s _ _ _ (s₁.setTop (mkF m 1 #[.val (Value.long x0), .second, .val (Value.long x1), .second] [(Value.long x0)]))
  refine own_lloadN X0 hx hby own_d3_1 rfl ?_
  show own_G p e below s _ _ _ (s₁.setTop (mkF m 2 #[.val (Value.long x0), .second, .val (Value.long x1), .second] [(Value.long x1), (Value.long x0)]))
  refine own_lcmp_gt X0 hx hby own_d3_2 own_d3_3 (pc' := 10) (by decide) (by decide) (fun hb1 => ?_) (fun hb1 => ?_)
  · show own_G p e below s _ _ _ (s₁.setTop (mkF m 10 #[.val (Value.long x0), .second, .val (Value.long x1), .second] []))
    refine own_lloadN X0 hx hby own_d3_10 rfl ?_
    show own_G p e below s _ _ _ (s₁.setTop (mkF m 11 #[.val (Value.long x0), .second, .val (Value.long x1), .second] [(Value.long x1)]))
    refine own_retJ X0 hx hby hlk Bd.returns own_d3_11 (by decide) (by decide) ?_
    refine ⟨?_, e0, N0⟩
    show some (Value.long x1) = _
    simp only [own_minJ, if_pos hb1]
  · show own_G p e below s _ _ _ (s₁.setTop (mkF m 6 #[.val (Value.long x0), .second, .val (Value.long x1), .second] []))
    refine own_lloadN X0 hx hby own_d3_6 rfl ?_
    show own_G p e below s _ _ _ (s₁.setTop (mkF m 7 #[.val (Value.long x0), .second, .val (Value.long x1), .second] [(Value.long x0)]))
    refine own_goto X0 hx hby own_d3_7 (pc' := 11) (by decide) (by decide) ?_
    show own_G p e below s _ _ _ (s₁.setTop (mkF m 11 #[.val (Value.long x0), .second, .val (Value.long x1), .second] [(Value.long x0)]))
    refine own_retJ X0 hx hby hlk Bd.returns own_d3_11 (by decide) (by decide) ?_
    refine ⟨?_, e0, N0⟩
    show some (Value.long x0) = _
    simp only [own_minJ, if_neg hb1]
def own_rmMaxJ_Q (Z : State) (x0 : Int64) (x1 : Int64)  (h0 : Heap) (n0 : Nat) : Option Value → Heap → List Loc → Prop := fun v h L => v = some (Value.long (own_maxJ x0 x1)) ∧ h = h0 ∧ Fr n0 L
theorem own_rmMaxJ_ef (m : MethodId) (x0 : Int64) (x1 : Int64)  : entryFrame m #[(Value.long x0), (Value.long x1)] 4 = mkF m 0 #[.val (Value.long x0), .second, .val (Value.long x1), .second] [] := by first | (simp [entryFrame, mkF, argsToLocals, Value.category]; done) | rfl
set_option maxRecDepth 65536 in
set_option maxHeartbeats 40000000 in
theorem own_rmMaxJ (l : Launch) (Z : State) (a0 : Array Value) (hw : ∀ d ∈ tables_1, d.before a0 Z = true) (ws : List Jvm.Cond) (x0 : Int64) (x1 : Int64)  (h0 : Heap) (n0 : Nat) (O0 : Old Z n0 h0)  :
    MetFree l (⟨"java/lang/Math", "max", "(JJ)J"⟩ : MethodName) (head1 (Jvm.Cond.code (⟨"java/lang/Math", "max", "(JJ)J"⟩ : MethodName) jdk_29_method_66_code 4 (some .long) :: ws) ({ frames := 0, cells := 0, slots := 0, locals := 0 } : Room)) (fun aa_ U => aa_ = #[(Value.long x0), (Value.long x1)] ∧ Z.Warmed39 U.vm ∧ U.heap = h0) (fun _ _ _ _ _ => True) (fun _ UU_ oo_ UX_ => ∃ vv_ LL_, oo_ = .returned vv_ ∧ (own_rmMaxJ_Q Z x0 x1 h0 n0) vv_ UX_.heap LL_ ∧ FrameEnd UU_ oo_ UX_ LL_ ({ frames := 0, cells := 0, slots := 0, locals := 0 } : Room).cells ({ frames := 0, cells := 0, slots := 0, locals := 0 } : Room).slots) := by
  refine MetFree.of_bodySF (Jvm.Free.JP.mathPlain rfl (by decide +kernel)) hisR ?_
  intro p e s m args below meth c s₁ Bd hml0 hP hK
  obtain ⟨rfl, hZ, hh⟩ := hP
  have hx := Bd.exec
  have hby := Bd.bytes
  have hml : c.maxLocals = 4 := hml0
  have hown : s.vm.findClass "java/lang/Math" = some m.cls := findClass_of_methodNamed Bd.named
  have hnm := (name_of_methodNamed Bd.named Bd.method).1
  have hlk : meth.locks = false := BodyLoose.notSynchronized Bd
  have X0 : Stand p l e ({ frames := 0, cells := 0, slots := 0, locals := 0 } : Room) s m #[(Value.long x0), (Value.long x1)] below meth c s₁ [] 0 0 := Stand.of_body Bd
  have e0 : s₁.heap = h0 := by rw [← hh, Bd.state]; rfl
  have N0 := Fr.nil n0
  show own_G p e below s (own_rmMaxJ_Q Z x0 x1 h0 n0) ({ frames := 0, cells := 0, slots := 0, locals := 0 } : Room).cells ({ frames := 0, cells := 0, slots := 0, locals := 0 } : Room).slots (s₁.setTop (entryFrame m #[(Value.long x0), (Value.long x1)] 4))
  refine own_cast (own_rmMaxJ_ef m x0 x1 ) ?_
  show own_G p e below s _ _ _ (s₁.setTop (mkF m 0 #[.val (Value.long x0), .second, .val (Value.long x1), .second] []))
  refine own_lloadN X0 hx hby own_d4_0 rfl ?_
  show own_G p e below s _ _ _ (s₁.setTop (mkF m 1 #[.val (Value.long x0), .second, .val (Value.long x1), .second] [(Value.long x0)]))
  refine own_lloadN X0 hx hby own_d4_1 rfl ?_
  show own_G p e below s _ _ _ (s₁.setTop (mkF m 2 #[.val (Value.long x0), .second, .val (Value.long x1), .second] [(Value.long x1), (Value.long x0)]))
  refine own_lcmp_lt X0 hx hby own_d4_2 own_d4_3 (pc' := 10) (by decide) (by decide) (fun hb1 => ?_) (fun hb1 => ?_)
  · show own_G p e below s _ _ _ (s₁.setTop (mkF m 10 #[.val (Value.long x0), .second, .val (Value.long x1), .second] []))
    refine own_lloadN X0 hx hby own_d4_10 rfl ?_
    show own_G p e below s _ _ _ (s₁.setTop (mkF m 11 #[.val (Value.long x0), .second, .val (Value.long x1), .second] [(Value.long x1)]))
    refine own_retJ X0 hx hby hlk Bd.returns own_d4_11 (by decide) (by decide) ?_
    refine ⟨?_, e0, N0⟩
    show some (Value.long x1) = _
    simp only [own_maxJ, if_pos hb1]
  · show own_G p e below s _ _ _ (s₁.setTop (mkF m 6 #[.val (Value.long x0), .second, .val (Value.long x1), .second] []))
    refine own_lloadN X0 hx hby own_d4_6 rfl ?_
    show own_G p e below s _ _ _ (s₁.setTop (mkF m 7 #[.val (Value.long x0), .second, .val (Value.long x1), .second] [(Value.long x0)]))
    refine own_goto X0 hx hby own_d4_7 (pc' := 11) (by decide) (by decide) ?_
    show own_G p e below s _ _ _ (s₁.setTop (mkF m 11 #[.val (Value.long x0), .second, .val (Value.long x1), .second] [(Value.long x0)]))
    refine own_retJ X0 hx hby hlk Bd.returns own_d4_11 (by decide) (by decide) ?_
    refine ⟨?_, e0, N0⟩
    show some (Value.long x0) = _
    simp only [own_maxJ, if_neg hb1]
def own_rmMinI_Q (Z : State) (x0 : Int32) (x1 : Int32)  (h0 : Heap) (n0 : Nat) : Option Value → Heap → List Loc → Prop := fun v h L => v = some (Value.int (own_minI x0 x1)) ∧ h = h0 ∧ Fr n0 L
theorem own_rmMinI_ef (m : MethodId) (x0 : Int32) (x1 : Int32)  : entryFrame m #[(Value.int x0), (Value.int x1)] 2 = mkF m 0 #[.val (Value.int x0), .val (Value.int x1)] [] := by first | (simp [entryFrame, mkF, argsToLocals, Value.category]; done) | rfl
set_option maxRecDepth 65536 in
set_option maxHeartbeats 40000000 in
theorem own_rmMinI (l : Launch) (Z : State) (a0 : Array Value) (hw : ∀ d ∈ tables_1, d.before a0 Z = true) (ws : List Jvm.Cond) (x0 : Int32) (x1 : Int32)  (h0 : Heap) (n0 : Nat) (O0 : Old Z n0 h0)  :
    MetFree l (⟨"java/lang/Math", "min", "(II)I"⟩ : MethodName) (head1 (Jvm.Cond.code (⟨"java/lang/Math", "min", "(II)I"⟩ : MethodName) jdk_29_method_69_code 2 (some .int) :: ws) ({ frames := 0, cells := 0, slots := 0, locals := 0 } : Room)) (fun aa_ U => aa_ = #[(Value.int x0), (Value.int x1)] ∧ Z.Warmed39 U.vm ∧ U.heap = h0) (fun _ _ _ _ _ => True) (fun _ UU_ oo_ UX_ => ∃ vv_ LL_, oo_ = .returned vv_ ∧ (own_rmMinI_Q Z x0 x1 h0 n0) vv_ UX_.heap LL_ ∧ FrameEnd UU_ oo_ UX_ LL_ ({ frames := 0, cells := 0, slots := 0, locals := 0 } : Room).cells ({ frames := 0, cells := 0, slots := 0, locals := 0 } : Room).slots) := by
  refine MetFree.of_bodySF (Jvm.Free.JP.mathPlain rfl (by decide +kernel)) hisR ?_
  intro p e s m args below meth c s₁ Bd hml0 hP hK
  obtain ⟨rfl, hZ, hh⟩ := hP
  have hx := Bd.exec
  have hby := Bd.bytes
  have hml : c.maxLocals = 2 := hml0
  have hown : s.vm.findClass "java/lang/Math" = some m.cls := findClass_of_methodNamed Bd.named
  have hnm := (name_of_methodNamed Bd.named Bd.method).1
  have hlk : meth.locks = false := BodyLoose.notSynchronized Bd
  have X0 : Stand p l e ({ frames := 0, cells := 0, slots := 0, locals := 0 } : Room) s m #[(Value.int x0), (Value.int x1)] below meth c s₁ [] 0 0 := Stand.of_body Bd
  have e0 : s₁.heap = h0 := by rw [← hh, Bd.state]; rfl
  have N0 := Fr.nil n0
  show own_G p e below s (own_rmMinI_Q Z x0 x1 h0 n0) ({ frames := 0, cells := 0, slots := 0, locals := 0 } : Room).cells ({ frames := 0, cells := 0, slots := 0, locals := 0 } : Room).slots (s₁.setTop (entryFrame m #[(Value.int x0), (Value.int x1)] 2))
  refine own_cast (own_rmMinI_ef m x0 x1 ) ?_
  show own_G p e below s _ _ _ (s₁.setTop (mkF m 0 #[.val (Value.int x0), .val (Value.int x1)] []))
  refine own_iloadN X0 hx hby own_d7_0 rfl ?_
  show own_G p e below s _ _ _ (s₁.setTop (mkF m 1 #[.val (Value.int x0), .val (Value.int x1)] [(Value.int x0)]))
  refine own_iloadN X0 hx hby own_d7_1 rfl ?_
  show own_G p e below s _ _ _ (s₁.setTop (mkF m 2 #[.val (Value.int x0), .val (Value.int x1)] [(Value.int x1), (Value.int x0)]))
  refine own_icmp_gt X0 hx hby own_d7_2 (pc' := 9) (by decide) (by decide) (fun hb1 => ?_) (fun hb1 => ?_)
  · show own_G p e below s _ _ _ (s₁.setTop (mkF m 9 #[.val (Value.int x0), .val (Value.int x1)] []))
    refine own_iloadN X0 hx hby own_d7_9 rfl ?_
    show own_G p e below s _ _ _ (s₁.setTop (mkF m 10 #[.val (Value.int x0), .val (Value.int x1)] [(Value.int x1)]))
    refine own_retI X0 hx hby hlk Bd.returns own_d7_10 (by decide) (by decide) ?_
    refine ⟨?_, e0, N0⟩
    show some (Value.int x1) = _
    simp only [own_minI, if_pos hb1]
  · show own_G p e below s _ _ _ (s₁.setTop (mkF m 5 #[.val (Value.int x0), .val (Value.int x1)] []))
    refine own_iloadN X0 hx hby own_d7_5 rfl ?_
    show own_G p e below s _ _ _ (s₁.setTop (mkF m 6 #[.val (Value.int x0), .val (Value.int x1)] [(Value.int x0)]))
    refine own_goto X0 hx hby own_d7_6 (pc' := 10) (by decide) (by decide) ?_
    show own_G p e below s _ _ _ (s₁.setTop (mkF m 10 #[.val (Value.int x0), .val (Value.int x1)] [(Value.int x0)]))
    refine own_retI X0 hx hby hlk Bd.returns own_d7_10 (by decide) (by decide) ?_
    refine ⟨?_, e0, N0⟩
    show some (Value.int x0) = _
    simp only [own_minI, if_neg hb1]
def own_rmZ_Q (Z : State) (x0 : Int32)  (h0 : Heap) (n0 : Nat) : Option Value → Heap → List Loc → Prop := fun v h L => v = some (Value.int (own_nlz x0)) ∧ h = h0 ∧ Fr n0 L
theorem own_rmZ_ef (m : MethodId) (x0 : Int32)  : entryFrame m #[(Value.int x0)] 2 = mkF m 0 #[.val (Value.int x0), .unset] [] := by first | (simp [entryFrame, mkF, argsToLocals, Value.category]; done) | rfl
set_option maxRecDepth 65536 in
set_option maxHeartbeats 40000000 in
theorem own_rmZ (l : Launch) (Z : State) (a0 : Array Value) (hw : ∀ d ∈ tables_1, d.before a0 Z = true) (ws : List Jvm.Cond) (x0 : Int32)  (h0 : Heap) (n0 : Nat) (O0 : Old Z n0 h0) (h1 : 1 ≤ x0.toInt) (h2 : x0.toInt ≤ 128) :
    MetFree l (⟨"java/lang/Integer", "numberOfLeadingZeros", "(I)I"⟩ : MethodName) (head1 (Jvm.Cond.code (⟨"java/lang/Integer", "numberOfLeadingZeros", "(I)I"⟩ : MethodName) jdk_33_method_47_code 2 (some .int) :: ws) ({ frames := 0, cells := 0, slots := 0, locals := 0 } : Room)) (fun aa_ U => aa_ = #[(Value.int x0)] ∧ Z.Warmed39 U.vm ∧ U.heap = h0) (fun _ _ _ _ _ => True) (fun _ UU_ oo_ UX_ => ∃ vv_ LL_, oo_ = .returned vv_ ∧ (own_rmZ_Q Z x0 h0 n0) vv_ UX_.heap LL_ ∧ FrameEnd UU_ oo_ UX_ LL_ ({ frames := 0, cells := 0, slots := 0, locals := 0 } : Room).cells ({ frames := 0, cells := 0, slots := 0, locals := 0 } : Room).slots) := by
  refine MetFree.of_bodySF (plainFor_of_name own_pn0) hisR ?_
  intro p e s m args below meth c s₁ Bd hml0 hP hK
  obtain ⟨rfl, hZ, hh⟩ := hP
  have hx := Bd.exec
  have hby := Bd.bytes
  have hml : c.maxLocals = 2 := hml0
  have hown : s.vm.findClass "java/lang/Integer" = some m.cls := findClass_of_methodNamed Bd.named
  have hnm := (name_of_methodNamed Bd.named Bd.method).1
  have hlk : meth.locks = false := BodyLoose.notSynchronized Bd
  have X0 : Stand p l e ({ frames := 0, cells := 0, slots := 0, locals := 0 } : Room) s m #[(Value.int x0)] below meth c s₁ [] 0 0 := Stand.of_body Bd
  have e0 : s₁.heap = h0 := by rw [← hh, Bd.state]; rfl
  have N0 := Fr.nil n0
  show own_G p e below s (own_rmZ_Q Z x0 h0 n0) ({ frames := 0, cells := 0, slots := 0, locals := 0 } : Room).cells ({ frames := 0, cells := 0, slots := 0, locals := 0 } : Room).slots (s₁.setTop (entryFrame m #[(Value.int x0)] 2))
  refine own_cast (own_rmZ_ef m x0 ) ?_
  show own_G p e below s _ _ _ (s₁.setTop (mkF m 0 #[.val (Value.int x0), .unset] []))
  refine own_iloadN X0 hx hby own_d6_0 rfl ?_
  show own_G p e below s _ _ _ (s₁.setTop (mkF m 1 #[.val (Value.int x0), .unset] [(Value.int x0)]))
  refine own_if_gt X0 hx hby own_d6_1 (pc' := 15) (by decide) (by decide) (fun hb1 => ?_) (fun hb1 => by exfalso; apply hb1; rw [Int32.lt_iff_toInt_lt]; simp only [Int32.reduceToInt]; omega)
  show own_G p e below s _ _ _ (s₁.setTop (mkF m 15 #[.val (Value.int x0), .unset] []))
  refine own_bipush X0 hx hby own_d6_15 ?_
  show own_G p e below s _ _ _ (s₁.setTop (mkF m 17 #[.val (Value.int x0), .unset] [(Value.int (31 : Int32))]))
  refine own_istoreN X0 hx hby own_d6_17 (l' := #[.val (Value.int x0), .val (Value.int (31 : Int32))]) rfl ?_
  show own_G p e below s _ _ _ (s₁.setTop (mkF m 18 #[.val (Value.int x0), .val (Value.int (31 : Int32))] []))
  refine own_iloadN X0 hx hby own_d6_18 rfl ?_
  show own_G p e below s _ _ _ (s₁.setTop (mkF m 19 #[.val (Value.int x0), .val (Value.int (31 : Int32))] [(Value.int x0)]))
  refine own_ldcwI X0 hx hby hZ hown (own_w26 hw) own_d6_19 ?_
  show own_G p e below s _ _ _ (s₁.setTop (mkF m 22 #[.val (Value.int x0), .val (Value.int (31 : Int32))] [(Value.int (65536 : Int32)), (Value.int x0)]))
  refine own_icmp_lt X0 hx hby own_d6_22 (pc' := 33) (by decide) (by decide) (fun hb2 => ?_) (fun hb2 => by exfalso; apply hb2; rw [Int32.lt_iff_toInt_lt]; simp only [Int32.reduceToInt]; omega)
  show own_G p e below s _ _ _ (s₁.setTop (mkF m 33 #[.val (Value.int x0), .val (Value.int (31 : Int32))] []))
  refine own_iloadN X0 hx hby own_d6_33 rfl ?_
  show own_G p e below s _ _ _ (s₁.setTop (mkF m 34 #[.val (Value.int x0), .val (Value.int (31 : Int32))] [(Value.int x0)]))
  refine own_sipush X0 hx hby own_d6_34 ?_
  show own_G p e below s _ _ _ (s₁.setTop (mkF m 37 #[.val (Value.int x0), .val (Value.int (31 : Int32))] [(Value.int (256 : Int32)), (Value.int x0)]))
  refine own_icmp_lt X0 hx hby own_d6_37 (pc' := 48) (by decide) (by decide) (fun hb3 => ?_) (fun hb3 => by exfalso; apply hb3; rw [Int32.lt_iff_toInt_lt]; simp only [Int32.reduceToInt]; omega)
  show own_G p e below s _ _ _ (s₁.setTop (mkF m 48 #[.val (Value.int x0), .val (Value.int (31 : Int32))] []))
  refine own_iloadN X0 hx hby own_d6_48 rfl ?_
  show own_G p e below s _ _ _ (s₁.setTop (mkF m 49 #[.val (Value.int x0), .val (Value.int (31 : Int32))] [(Value.int x0)]))
  refine own_bipush X0 hx hby own_d6_49 ?_
  show own_G p e below s _ _ _ (s₁.setTop (mkF m 51 #[.val (Value.int x0), .val (Value.int (31 : Int32))] [(Value.int (16 : Int32)), (Value.int x0)]))
  refine own_icmp_lt X0 hx hby own_d6_51 (pc' := 61) (by decide) (by decide) (fun hb4 => ?_) (fun hb4 => ?_)
  · show own_G p e below s _ _ _ (s₁.setTop (mkF m 61 #[.val (Value.int x0), .val (Value.int (31 : Int32))] []))
    refine own_iloadN X0 hx hby own_d6_61 rfl ?_
    show own_G p e below s _ _ _ (s₁.setTop (mkF m 62 #[.val (Value.int x0), .val (Value.int (31 : Int32))] [(Value.int x0)]))
    refine own_iconst X0 hx hby own_d6_62 ?_
    show own_G p e below s _ _ _ (s₁.setTop (mkF m 63 #[.val (Value.int x0), .val (Value.int (31 : Int32))] [(Value.int (4 : Int32)), (Value.int x0)]))
    refine own_icmp_lt X0 hx hby own_d6_63 (pc' := 73) (by decide) (by decide) (fun hb5 => ?_) (fun hb5 => ?_)
    · show own_G p e below s _ _ _ (s₁.setTop (mkF m 73 #[.val (Value.int x0), .val (Value.int (31 : Int32))] []))
      refine own_iloadN X0 hx hby own_d6_73 rfl ?_
      show own_G p e below s _ _ _ (s₁.setTop (mkF m 74 #[.val (Value.int x0), .val (Value.int (31 : Int32))] [(Value.int (31 : Int32))]))
      refine own_iloadN X0 hx hby own_d6_74 rfl ?_
      show own_G p e below s _ _ _ (s₁.setTop (mkF m 75 #[.val (Value.int x0), .val (Value.int (31 : Int32))] [(Value.int x0), (Value.int (31 : Int32))]))
      refine own_iconst X0 hx hby own_d6_75 ?_
      show own_G p e below s _ _ _ (s₁.setTop (mkF m 76 #[.val (Value.int x0), .val (Value.int (31 : Int32))] [(Value.int (1 : Int32)), (Value.int x0), (Value.int (31 : Int32))]))
      refine own_iushr X0 hx hby own_d6_76 ?_
      show own_G p e below s _ _ _ (s₁.setTop (mkF m 77 #[.val (Value.int x0), .val (Value.int (31 : Int32))] [(Value.int ((x0.toUInt32 >>> ((1 : Int32) &&& 31).toUInt32).toInt32)), (Value.int (31 : Int32))]))
      refine own_isub X0 hx hby own_d6_77 ?_
      show own_G p e below s _ _ _ (s₁.setTop (mkF m 78 #[.val (Value.int x0), .val (Value.int (31 : Int32))] [(Value.int ((31 : Int32) - ((x0.toUInt32 >>> ((1 : Int32) &&& 31).toUInt32).toInt32)))]))
      refine own_retI X0 hx hby hlk Bd.returns own_d6_78 (by decide) (by decide) ?_
      refine ⟨?_, e0, N0⟩
      show some (Value.int ((31 : Int32) - ((x0.toUInt32 >>> ((1 : Int32) &&& 31).toUInt32).toInt32))) = _
      simp only [own_nlz, if_pos hb4, if_pos hb5]
    · show own_G p e below s _ _ _ (s₁.setTop (mkF m 66 #[.val (Value.int x0), .val (Value.int (31 : Int32))] []))
      refine own_iinc X0 hx hby own_d6_66 rfl (l' := #[.val (Value.int x0), .val (Value.int (29 : Int32))]) rfl ?_
      show own_G p e below s _ _ _ (s₁.setTop (mkF m 69 #[.val (Value.int x0), .val (Value.int (29 : Int32))] []))
      refine own_iloadN X0 hx hby own_d6_69 rfl ?_
      show own_G p e below s _ _ _ (s₁.setTop (mkF m 70 #[.val (Value.int x0), .val (Value.int (29 : Int32))] [(Value.int x0)]))
      refine own_iconst X0 hx hby own_d6_70 ?_
      show own_G p e below s _ _ _ (s₁.setTop (mkF m 71 #[.val (Value.int x0), .val (Value.int (29 : Int32))] [(Value.int (2 : Int32)), (Value.int x0)]))
      refine own_iushr X0 hx hby own_d6_71 ?_
      show own_G p e below s _ _ _ (s₁.setTop (mkF m 72 #[.val (Value.int x0), .val (Value.int (29 : Int32))] [(Value.int ((x0.toUInt32 >>> ((2 : Int32) &&& 31).toUInt32).toInt32))]))
      refine own_istoreN X0 hx hby own_d6_72 (l' := #[.val (Value.int ((x0.toUInt32 >>> ((2 : Int32) &&& 31).toUInt32).toInt32)), .val (Value.int (29 : Int32))]) rfl ?_
      show own_G p e below s _ _ _ (s₁.setTop (mkF m 73 #[.val (Value.int ((x0.toUInt32 >>> ((2 : Int32) &&& 31).toUInt32).toInt32)), .val (Value.int (29 : Int32))] []))
      refine own_iloadN X0 hx hby own_d6_73 rfl ?_
      show own_G p e below s _ _ _ (s₁.setTop (mkF m 74 #[.val (Value.int ((x0.toUInt32 >>> ((2 : Int32) &&& 31).toUInt32).toInt32)), .val (Value.int (29 : Int32))] [(Value.int (29 : Int32))]))
      refine own_iloadN X0 hx hby own_d6_74 rfl ?_
      show own_G p e below s _ _ _ (s₁.setTop (mkF m 75 #[.val (Value.int ((x0.toUInt32 >>> ((2 : Int32) &&& 31).toUInt32).toInt32)), .val (Value.int (29 : Int32))] [(Value.int ((x0.toUInt32 >>> ((2 : Int32) &&& 31).toUInt32).toInt32)), (Value.int (29 : Int32))]))
      refine own_iconst X0 hx hby own_d6_75 ?_
      show own_G p e below s _ _ _ (s₁.setTop (mkF m 76 #[.val (Value.int ((x0.toUInt32 >>> ((2 : Int32) &&& 31).toUInt32).toInt32)), .val (Value.int (29 : Int32))] [(Value.int (1 : Int32)), (Value.int ((x0.toUInt32 >>> ((2 : Int32) &&& 31).toUInt32).toInt32)), (Value.int (29 : Int32))]))
      refine own_iushr X0 hx hby own_d6_76 ?_
      show own_G p e below s _ _ _ (s₁.setTop (mkF m 77 #[.val (Value.int ((x0.toUInt32 >>> ((2 : Int32) &&& 31).toUInt32).toInt32)), .val (Value.int (29 : Int32))] [(Value.int ((((x0.toUInt32 >>> ((2 : Int32) &&& 31).toUInt32).toInt32).toUInt32 >>> ((1 : Int32) &&& 31).toUInt32).toInt32)), (Value.int (29 : Int32))]))
      refine own_isub X0 hx hby own_d6_77 ?_
      show own_G p e below s _ _ _ (s₁.setTop (mkF m 78 #[.val (Value.int ((x0.toUInt32 >>> ((2 : Int32) &&& 31).toUInt32).toInt32)), .val (Value.int (29 : Int32))] [(Value.int ((29 : Int32) - ((((x0.toUInt32 >>> ((2 : Int32) &&& 31).toUInt32).toInt32).toUInt32 >>> ((1 : Int32) &&& 31).toUInt32).toInt32)))]))
      refine own_retI X0 hx hby hlk Bd.returns own_d6_78 (by decide) (by decide) ?_
      refine ⟨?_, e0, N0⟩
      show some (Value.int ((29 : Int32) - ((((x0.toUInt32 >>> ((2 : Int32) &&& 31).toUInt32).toInt32).toUInt32 >>> ((1 : Int32) &&& 31).toUInt32).toInt32))) = _
      simp only [own_nlz, if_pos hb4, if_neg hb5]
  · show own_G p e below s _ _ _ (s₁.setTop (mkF m 54 #[.val (Value.int x0), .val (Value.int (31 : Int32))] []))
    refine own_iinc X0 hx hby own_d6_54 rfl (l' := #[.val (Value.int x0), .val (Value.int (27 : Int32))]) rfl ?_
    show own_G p e below s _ _ _ (s₁.setTop (mkF m 57 #[.val (Value.int x0), .val (Value.int (27 : Int32))] []))
    refine own_iloadN X0 hx hby own_d6_57 rfl ?_
    show own_G p e below s _ _ _ (s₁.setTop (mkF m 58 #[.val (Value.int x0), .val (Value.int (27 : Int32))] [(Value.int x0)]))
    refine own_iconst X0 hx hby own_d6_58 ?_
    show own_G p e below s _ _ _ (s₁.setTop (mkF m 59 #[.val (Value.int x0), .val (Value.int (27 : Int32))] [(Value.int (4 : Int32)), (Value.int x0)]))
    refine own_iushr X0 hx hby own_d6_59 ?_
    show own_G p e below s _ _ _ (s₁.setTop (mkF m 60 #[.val (Value.int x0), .val (Value.int (27 : Int32))] [(Value.int ((x0.toUInt32 >>> ((4 : Int32) &&& 31).toUInt32).toInt32))]))
    refine own_istoreN X0 hx hby own_d6_60 (l' := #[.val (Value.int ((x0.toUInt32 >>> ((4 : Int32) &&& 31).toUInt32).toInt32)), .val (Value.int (27 : Int32))]) rfl ?_
    show own_G p e below s _ _ _ (s₁.setTop (mkF m 61 #[.val (Value.int ((x0.toUInt32 >>> ((4 : Int32) &&& 31).toUInt32).toInt32)), .val (Value.int (27 : Int32))] []))
    refine own_iloadN X0 hx hby own_d6_61 rfl ?_
    show own_G p e below s _ _ _ (s₁.setTop (mkF m 62 #[.val (Value.int ((x0.toUInt32 >>> ((4 : Int32) &&& 31).toUInt32).toInt32)), .val (Value.int (27 : Int32))] [(Value.int ((x0.toUInt32 >>> ((4 : Int32) &&& 31).toUInt32).toInt32))]))
    refine own_iconst X0 hx hby own_d6_62 ?_
    show own_G p e below s _ _ _ (s₁.setTop (mkF m 63 #[.val (Value.int ((x0.toUInt32 >>> ((4 : Int32) &&& 31).toUInt32).toInt32)), .val (Value.int (27 : Int32))] [(Value.int (4 : Int32)), (Value.int ((x0.toUInt32 >>> ((4 : Int32) &&& 31).toUInt32).toInt32))]))
    refine own_icmp_lt X0 hx hby own_d6_63 (pc' := 73) (by decide) (by decide) (fun hb6 => ?_) (fun hb6 => ?_)
    · show own_G p e below s _ _ _ (s₁.setTop (mkF m 73 #[.val (Value.int ((x0.toUInt32 >>> ((4 : Int32) &&& 31).toUInt32).toInt32)), .val (Value.int (27 : Int32))] []))
      refine own_iloadN X0 hx hby own_d6_73 rfl ?_
      show own_G p e below s _ _ _ (s₁.setTop (mkF m 74 #[.val (Value.int ((x0.toUInt32 >>> ((4 : Int32) &&& 31).toUInt32).toInt32)), .val (Value.int (27 : Int32))] [(Value.int (27 : Int32))]))
      refine own_iloadN X0 hx hby own_d6_74 rfl ?_
      show own_G p e below s _ _ _ (s₁.setTop (mkF m 75 #[.val (Value.int ((x0.toUInt32 >>> ((4 : Int32) &&& 31).toUInt32).toInt32)), .val (Value.int (27 : Int32))] [(Value.int ((x0.toUInt32 >>> ((4 : Int32) &&& 31).toUInt32).toInt32)), (Value.int (27 : Int32))]))
      refine own_iconst X0 hx hby own_d6_75 ?_
      show own_G p e below s _ _ _ (s₁.setTop (mkF m 76 #[.val (Value.int ((x0.toUInt32 >>> ((4 : Int32) &&& 31).toUInt32).toInt32)), .val (Value.int (27 : Int32))] [(Value.int (1 : Int32)), (Value.int ((x0.toUInt32 >>> ((4 : Int32) &&& 31).toUInt32).toInt32)), (Value.int (27 : Int32))]))
      refine own_iushr X0 hx hby own_d6_76 ?_
      show own_G p e below s _ _ _ (s₁.setTop (mkF m 77 #[.val (Value.int ((x0.toUInt32 >>> ((4 : Int32) &&& 31).toUInt32).toInt32)), .val (Value.int (27 : Int32))] [(Value.int ((((x0.toUInt32 >>> ((4 : Int32) &&& 31).toUInt32).toInt32).toUInt32 >>> ((1 : Int32) &&& 31).toUInt32).toInt32)), (Value.int (27 : Int32))]))
      refine own_isub X0 hx hby own_d6_77 ?_
      show own_G p e below s _ _ _ (s₁.setTop (mkF m 78 #[.val (Value.int ((x0.toUInt32 >>> ((4 : Int32) &&& 31).toUInt32).toInt32)), .val (Value.int (27 : Int32))] [(Value.int ((27 : Int32) - ((((x0.toUInt32 >>> ((4 : Int32) &&& 31).toUInt32).toInt32).toUInt32 >>> ((1 : Int32) &&& 31).toUInt32).toInt32)))]))
      refine own_retI X0 hx hby hlk Bd.returns own_d6_78 (by decide) (by decide) ?_
      refine ⟨?_, e0, N0⟩
      show some (Value.int ((27 : Int32) - ((((x0.toUInt32 >>> ((4 : Int32) &&& 31).toUInt32).toInt32).toUInt32 >>> ((1 : Int32) &&& 31).toUInt32).toInt32))) = _
      simp only [own_nlz, if_neg hb4, if_pos hb6]
    · show own_G p e below s _ _ _ (s₁.setTop (mkF m 66 #[.val (Value.int ((x0.toUInt32 >>> ((4 : Int32) &&& 31).toUInt32).toInt32)), .val (Value.int (27 : Int32))] []))
      refine own_iinc X0 hx hby own_d6_66 rfl (l' := #[.val (Value.int ((x0.toUInt32 >>> ((4 : Int32) &&& 31).toUInt32).toInt32)), .val (Value.int (25 : Int32))]) rfl ?_
      show own_G p e below s _ _ _ (s₁.setTop (mkF m 69 #[.val (Value.int ((x0.toUInt32 >>> ((4 : Int32) &&& 31).toUInt32).toInt32)), .val (Value.int (25 : Int32))] []))
      refine own_iloadN X0 hx hby own_d6_69 rfl ?_
      show own_G p e below s _ _ _ (s₁.setTop (mkF m 70 #[.val (Value.int ((x0.toUInt32 >>> ((4 : Int32) &&& 31).toUInt32).toInt32)), .val (Value.int (25 : Int32))] [(Value.int ((x0.toUInt32 >>> ((4 : Int32) &&& 31).toUInt32).toInt32))]))
      refine own_iconst X0 hx hby own_d6_70 ?_
      show own_G p e below s _ _ _ (s₁.setTop (mkF m 71 #[.val (Value.int ((x0.toUInt32 >>> ((4 : Int32) &&& 31).toUInt32).toInt32)), .val (Value.int (25 : Int32))] [(Value.int (2 : Int32)), (Value.int ((x0.toUInt32 >>> ((4 : Int32) &&& 31).toUInt32).toInt32))]))
      refine own_iushr X0 hx hby own_d6_71 ?_
      show own_G p e below s _ _ _ (s₁.setTop (mkF m 72 #[.val (Value.int ((x0.toUInt32 >>> ((4 : Int32) &&& 31).toUInt32).toInt32)), .val (Value.int (25 : Int32))] [(Value.int ((((x0.toUInt32 >>> ((4 : Int32) &&& 31).toUInt32).toInt32).toUInt32 >>> ((2 : Int32) &&& 31).toUInt32).toInt32))]))
      refine own_istoreN X0 hx hby own_d6_72 (l' := #[.val (Value.int ((((x0.toUInt32 >>> ((4 : Int32) &&& 31).toUInt32).toInt32).toUInt32 >>> ((2 : Int32) &&& 31).toUInt32).toInt32)), .val (Value.int (25 : Int32))]) rfl ?_
      show own_G p e below s _ _ _ (s₁.setTop (mkF m 73 #[.val (Value.int ((((x0.toUInt32 >>> ((4 : Int32) &&& 31).toUInt32).toInt32).toUInt32 >>> ((2 : Int32) &&& 31).toUInt32).toInt32)), .val (Value.int (25 : Int32))] []))
      refine own_iloadN X0 hx hby own_d6_73 rfl ?_
      show own_G p e below s _ _ _ (s₁.setTop (mkF m 74 #[.val (Value.int ((((x0.toUInt32 >>> ((4 : Int32) &&& 31).toUInt32).toInt32).toUInt32 >>> ((2 : Int32) &&& 31).toUInt32).toInt32)), .val (Value.int (25 : Int32))] [(Value.int (25 : Int32))]))
      refine own_iloadN X0 hx hby own_d6_74 rfl ?_
      show own_G p e below s _ _ _ (s₁.setTop (mkF m 75 #[.val (Value.int ((((x0.toUInt32 >>> ((4 : Int32) &&& 31).toUInt32).toInt32).toUInt32 >>> ((2 : Int32) &&& 31).toUInt32).toInt32)), .val (Value.int (25 : Int32))] [(Value.int ((((x0.toUInt32 >>> ((4 : Int32) &&& 31).toUInt32).toInt32).toUInt32 >>> ((2 : Int32) &&& 31).toUInt32).toInt32)), (Value.int (25 : Int32))]))
      refine own_iconst X0 hx hby own_d6_75 ?_
      show own_G p e below s _ _ _ (s₁.setTop (mkF m 76 #[.val (Value.int ((((x0.toUInt32 >>> ((4 : Int32) &&& 31).toUInt32).toInt32).toUInt32 >>> ((2 : Int32) &&& 31).toUInt32).toInt32)), .val (Value.int (25 : Int32))] [(Value.int (1 : Int32)), (Value.int ((((x0.toUInt32 >>> ((4 : Int32) &&& 31).toUInt32).toInt32).toUInt32 >>> ((2 : Int32) &&& 31).toUInt32).toInt32)), (Value.int (25 : Int32))]))
      refine own_iushr X0 hx hby own_d6_76 ?_
      show own_G p e below s _ _ _ (s₁.setTop (mkF m 77 #[.val (Value.int ((((x0.toUInt32 >>> ((4 : Int32) &&& 31).toUInt32).toInt32).toUInt32 >>> ((2 : Int32) &&& 31).toUInt32).toInt32)), .val (Value.int (25 : Int32))] [(Value.int ((((((x0.toUInt32 >>> ((4 : Int32) &&& 31).toUInt32).toInt32).toUInt32 >>> ((2 : Int32) &&& 31).toUInt32).toInt32).toUInt32 >>> ((1 : Int32) &&& 31).toUInt32).toInt32)), (Value.int (25 : Int32))]))
      refine own_isub X0 hx hby own_d6_77 ?_
      show own_G p e below s _ _ _ (s₁.setTop (mkF m 78 #[.val (Value.int ((((x0.toUInt32 >>> ((4 : Int32) &&& 31).toUInt32).toInt32).toUInt32 >>> ((2 : Int32) &&& 31).toUInt32).toInt32)), .val (Value.int (25 : Int32))] [(Value.int ((25 : Int32) - ((((((x0.toUInt32 >>> ((4 : Int32) &&& 31).toUInt32).toInt32).toUInt32 >>> ((2 : Int32) &&& 31).toUInt32).toInt32).toUInt32 >>> ((1 : Int32) &&& 31).toUInt32).toInt32)))]))
      refine own_retI X0 hx hby hlk Bd.returns own_d6_78 (by decide) (by decide) ?_
      refine ⟨?_, e0, N0⟩
      show some (Value.int ((25 : Int32) - ((((((x0.toUInt32 >>> ((4 : Int32) &&& 31).toUInt32).toInt32).toUInt32 >>> ((2 : Int32) &&& 31).toUInt32).toInt32).toUInt32 >>> ((1 : Int32) &&& 31).toUInt32).toInt32))) = _
      simp only [own_nlz, if_neg hb4, if_neg hb6]
def own_rmH_Q (Z : State) (x0 : Int32)  (h0 : Heap) (n0 : Nat) : Option Value → Heap → List Loc → Prop := fun v h L => v = some (Value.int (own_hob x0)) ∧ h = h0 ∧ Fr n0 L
theorem own_rmH_ef (m : MethodId) (x0 : Int32)  : entryFrame m #[(Value.int x0)] 1 = mkF m 0 #[.val (Value.int x0)] [] := by first | (simp [entryFrame, mkF, argsToLocals, Value.category]; done) | rfl
set_option maxRecDepth 65536 in
set_option maxHeartbeats 40000000 in
theorem own_rmH (l : Launch) (Z : State) (a0 : Array Value) (hw : ∀ d ∈ tables_1, d.before a0 Z = true) (ws : List Jvm.Cond) (x0 : Int32)  (h0 : Heap) (n0 : Nat) (O0 : Old Z n0 h0) (h1 : 1 ≤ x0.toInt) (h2 : x0.toInt ≤ 128) :
    MetFree l (⟨"java/lang/Integer", "highestOneBit", "(I)I"⟩ : MethodName) (head1 (Jvm.Cond.code (⟨"java/lang/Integer", "highestOneBit", "(I)I"⟩ : MethodName) jdk_33_method_45_code 1 (some .int) :: ws) ({ frames := 1, cells := 0, slots := 0, locals := 15 } : Room)) (fun aa_ U => aa_ = #[(Value.int x0)] ∧ Z.Warmed39 U.vm ∧ U.heap = h0) (fun _ _ _ _ _ => True) (fun _ UU_ oo_ UX_ => ∃ vv_ LL_, oo_ = .returned vv_ ∧ (own_rmH_Q Z x0 h0 n0) vv_ UX_.heap LL_ ∧ FrameEnd UU_ oo_ UX_ LL_ ({ frames := 1, cells := 0, slots := 0, locals := 15 } : Room).cells ({ frames := 1, cells := 0, slots := 0, locals := 15 } : Room).slots) := by
  refine MetFree.of_bodySF (plainFor_of_name own_pn0) hisR ?_
  intro p e s m args below meth c s₁ Bd hml0 hP hK
  obtain ⟨rfl, hZ, hh⟩ := hP
  have hx := Bd.exec
  have hby := Bd.bytes
  have hml : c.maxLocals = 1 := hml0
  have hown : s.vm.findClass "java/lang/Integer" = some m.cls := findClass_of_methodNamed Bd.named
  have hnm := (name_of_methodNamed Bd.named Bd.method).1
  have hlk : meth.locks = false := BodyLoose.notSynchronized Bd
  have X0 : Stand p l e ({ frames := 1, cells := 0, slots := 0, locals := 15 } : Room) s m #[(Value.int x0)] below meth c s₁ [] 0 0 := Stand.of_body Bd
  have e0 : s₁.heap = h0 := by rw [← hh, Bd.state]; rfl
  have N0 := Fr.nil n0
  show own_G p e below s (own_rmH_Q Z x0 h0 n0) ({ frames := 1, cells := 0, slots := 0, locals := 15 } : Room).cells ({ frames := 1, cells := 0, slots := 0, locals := 15 } : Room).slots (s₁.setTop (entryFrame m #[(Value.int x0)] 1))
  refine own_cast (own_rmH_ef m x0 ) ?_
  show own_G p e below s _ _ _ (s₁.setTop (mkF m 0 #[.val (Value.int x0)] []))
  refine own_iloadN X0 hx hby own_d5_0 rfl ?_
  show own_G p e below s _ _ _ (s₁.setTop (mkF m 1 #[.val (Value.int x0)] [(Value.int x0)]))
  refine own_ldcI X0 hx hby hZ hown (own_w22 hw) own_d5_1 ?_
  show own_G p e below s _ _ _ (s₁.setTop (mkF m 3 #[.val (Value.int x0)] [(Value.int (-2147483648 : Int32)), (Value.int x0)]))
  refine own_iloadN X0 hx hby own_d5_3 rfl ?_
  show own_G p e below s _ _ _ (s₁.setTop (mkF m 4 #[.val (Value.int x0)] [(Value.int x0), (Value.int (-2147483648 : Int32)), (Value.int x0)]))
  obtain ⟨_, _, ⟨T1, L1, k1, n1⟩, -, X1, ⟨Lc1, hQ1, l1, y1, z1⟩, st1⟩ := Jvm.LawKit.callS X0 hx (y := (⟨"java/lang/Integer", "numberOfLeadingZeros", "(I)I"⟩ : MethodName)) hown (mvT hZ (own_w23 hw)) (mvT hZ (own_w24 hw)) (mvT hZ (own_w20 hw)) (mvT hZ (own_w25 hw)) (by decide) (backOf (W := 2) (own_rmZ l Z a0 hw [] x0  h0 n0 O0  h1 h2) hZ (own_w25 hw) (own_w20 hw) (by decide) (by decide)) (g := (mkF m 4 #[.val (Value.int x0)] [(Value.int x0), (Value.int (-2147483648 : Int32)), (Value.int x0)])) rfl (by rw [hml]; rfl) (argsL := [(Value.int x0)]) (rest := [(Value.int (-2147483648 : Int32)), (Value.int x0)]) (lenOf own_pd0 rfl) rfl (by show 2 * 0 + _ ≤ _; exact Nat.le_of_eq rfl) (hb hby own_d5_4) (fun _ _ => ⟨rfl, e0, (by decide : (0 : Nat) + 0 ≤ _), (by decide : (0 : Nat) + 0 ≤ _)⟩)
  dsimp only [Pt.U, Pt.locs, Pt.cells, Pt.slots] at X1 l1 y1 z1 st1 hQ1
  subst l1 y1 z1
  obtain ⟨rfl, e1, Nq1⟩ := hQ1
  have N1 := Fr.app N0 Nq1
  refine own_st st1 ?_
  show own_G p e below s _ _ _ (T1.setTop (mkF m 7 #[.val (Value.int x0)] [(Value.int (own_nlz x0)), (Value.int (-2147483648 : Int32)), (Value.int x0)]))
  refine own_iushr X1 hx hby own_d5_7 ?_
  show own_G p e below s _ _ _ (T1.setTop (mkF m 8 #[.val (Value.int x0)] [(Value.int (((-2147483648 : Int32).toUInt32 >>> ((own_nlz x0) &&& 31).toUInt32).toInt32)), (Value.int x0)]))
  refine own_iand X1 hx hby own_d5_8 ?_
  show own_G p e below s _ _ _ (T1.setTop (mkF m 9 #[.val (Value.int x0)] [(Value.int (x0 &&& (((-2147483648 : Int32).toUInt32 >>> ((own_nlz x0) &&& 31).toUInt32).toInt32)))]))
  refine own_retI X1 hx hby hlk Bd.returns own_d5_9 (by decide) (by decide) ?_
  refine ⟨?_, e1, N1⟩
  show some (Value.int (x0 &&& (((-2147483648 : Int32).toUInt32 >>> ((own_nlz x0) &&& 31).toUInt32).toInt32))) = _
  rfl
def own_rmF_Q (Z : State) (b : Addr) (x1 : Int32) (N : Nat) (G : Nat → Int32) (h0 : Heap) (n0 : Nat) : Option Value → Heap → List Loc → Prop := fun v h L => v = none ∧ Fr n0 L ∧ Keep h0 h [b] ∧ own_Ar Z h b .int N (fun _ => Value.int x1)
theorem own_rmF_ef (m : MethodId) (b : Addr) (x1 : Int32)  : entryFrame m #[(Value.ref b), (Value.int x1)] 4 = mkF m 0 #[.val (Value.ref b), .val (Value.int x1), .unset, .unset] [] := by first | (simp [entryFrame, mkF, argsToLocals, Value.category]; done) | rfl
set_option maxRecDepth 65536 in
set_option maxHeartbeats 40000000 in
theorem own_rmF (l : Launch) (Z : State) (a0 : Array Value) (hw : ∀ d ∈ tables_1, d.before a0 Z = true) (ws : List Jvm.Cond) (b : Addr) (x1 : Int32) (N : Nat) (G : Nat → Int32) (h0 : Heap) (n0 : Nat) (O0 : Old Z n0 h0) (A_b : own_Ar Z h0 b .int N (fun j => Value.int (G j))) (g_b : n0 ≤ b) (hN : N ≤ 128) :
    MetFree l (⟨"java/util/Arrays", "fill", "([II)V"⟩ : MethodName) (head1 (Jvm.Cond.code (⟨"java/util/Arrays", "fill", "([II)V"⟩ : MethodName) jdk_65_method_103_code 4 none :: ws) ({ frames := 0, cells := 0, slots := 0, locals := 0 } : Room)) (fun aa_ U => aa_ = #[(Value.ref b), (Value.int x1)] ∧ Z.Warmed39 U.vm ∧ U.heap = h0) (fun _ _ _ _ _ => True) (fun _ UU_ oo_ UX_ => ∃ vv_ LL_, oo_ = .returned vv_ ∧ (own_rmF_Q Z b x1 N G h0 n0) vv_ UX_.heap LL_ ∧ FrameEnd UU_ oo_ UX_ LL_ ({ frames := 0, cells := 0, slots := 0, locals := 0 } : Room).cells ({ frames := 0, cells := 0, slots := 0, locals := 0 } : Room).slots) := by
  refine MetFree.of_bodySF (plainFor_of_name own_pn1) hisR ?_
  intro p e s m args below meth c s₁ Bd hml0 hP hK
  obtain ⟨rfl, hZ, hh⟩ := hP
  have hx := Bd.exec
  have hby := Bd.bytes
  have hml : c.maxLocals = 4 := hml0
  have hown : s.vm.findClass "java/util/Arrays" = some m.cls := findClass_of_methodNamed Bd.named
  have hnm := (name_of_methodNamed Bd.named Bd.method).1
  have hlk : meth.locks = false := BodyLoose.notSynchronized Bd
  have X0 : Stand p l e ({ frames := 0, cells := 0, slots := 0, locals := 0 } : Room) s m #[(Value.ref b), (Value.int x1)] below meth c s₁ [] 0 0 := Stand.of_body Bd
  have e0 : s₁.heap = h0 := by rw [← hh, Bd.state]; rfl
  have N0 := Fr.nil n0
  show own_G p e below s (own_rmF_Q Z b x1 N G h0 n0) ({ frames := 0, cells := 0, slots := 0, locals := 0 } : Room).cells ({ frames := 0, cells := 0, slots := 0, locals := 0 } : Room).slots (s₁.setTop (entryFrame m #[(Value.ref b), (Value.int x1)] 4))
  refine own_cast (own_rmF_ef m b x1 ) ?_
  show own_G p e below s _ _ _ (s₁.setTop (mkF m 0 #[.val (Value.ref b), .val (Value.int x1), .unset, .unset] []))
  refine own_iconst X0 hx hby own_d8_0 ?_
  show own_G p e below s _ _ _ (s₁.setTop (mkF m 1 #[.val (Value.ref b), .val (Value.int x1), .unset, .unset] [(Value.int (0 : Int32))]))
  refine own_istoreN X0 hx hby own_d8_1 (l' := #[.val (Value.ref b), .val (Value.int x1), .val (Value.int (0 : Int32)), .unset]) rfl ?_
  show own_G p e below s _ _ _ (s₁.setTop (mkF m 2 #[.val (Value.ref b), .val (Value.int x1), .val (Value.int (0 : Int32)), .unset] []))
  refine own_aloadN X0 hx hby own_d8_2 rfl rfl ?_
  show own_G p e below s _ _ _ (s₁.setTop (mkF m 3 #[.val (Value.ref b), .val (Value.int x1), .val (Value.int (0 : Int32)), .unset] [(Value.ref b)]))
  refine own_alen X0 hx hby hZ e0 A_b own_d8_3 ?_
  show own_G p e below s _ _ _ (s₁.setTop (mkF m 4 #[.val (Value.ref b), .val (Value.int x1), .val (Value.int (0 : Int32)), .unset] [(Value.int N.toInt32)]))
  refine own_istoreN X0 hx hby own_d8_4 (l' := #[.val (Value.ref b), .val (Value.int x1), .val (Value.int (0 : Int32)), .val (Value.int N.toInt32)]) rfl ?_
  show own_G p e below s _ _ _ (s₁.setTop (mkF m 5 #[.val (Value.ref b), .val (Value.int x1), .val (Value.int (0 : Int32)), .val (Value.int N.toInt32)] []))
  have loop : ∀ (n : Nat) (T1 : State) (h1 : Heap) (lo1 : List Loc) (ii : Int32) (i : Nat) (X1 : Stand p l e ({ frames := 0, cells := 0, slots := 0, locals := 0 } : Room) s m #[(Value.ref b), (Value.int x1)] below meth c T1 lo1 0 0) (e1 : T1.heap = h1) (N1 : Fr n0 lo1) (O1 : Old Z n0 h1) (K1 : Keep h0 h1 [b]) (A1_b : own_Ar Z h1 b .int N (fun j => Value.int ((own_fl G x1 i) j))) (hi : ii.toInt = ((i : Nat) : Int)) (hn : i + n = N), own_G p e below s (own_rmF_Q Z b x1 N G h0 n0) ({ frames := 0, cells := 0, slots := 0, locals := 0 } : Room).cells ({ frames := 0, cells := 0, slots := 0, locals := 0 } : Room).slots (T1.setTop (mkF m 5 #[.val (Value.ref b), .val (Value.int x1), .val (Value.int ii), .val (Value.int N.toInt32)] [])) := by
    intro n
    induction n with
    | zero =>
      intro T1 h1 lo1 ii i X1 e1 N1 O1 K1 A1_b hi hn
      show own_G p e below s _ _ _ (T1.setTop (mkF m 5 #[.val (Value.ref b), .val (Value.int x1), .val (Value.int ii), .val (Value.int N.toInt32)] []))
      refine own_iloadN X1 hx hby own_d8_5 rfl ?_
      show own_G p e below s _ _ _ (T1.setTop (mkF m 6 #[.val (Value.ref b), .val (Value.int x1), .val (Value.int ii), .val (Value.int N.toInt32)] [(Value.int ii)]))
      refine own_iloadN X1 hx hby own_d8_6 rfl ?_
      show own_G p e below s _ _ _ (T1.setTop (mkF m 7 #[.val (Value.ref b), .val (Value.int x1), .val (Value.int ii), .val (Value.int N.toInt32)] [(Value.int N.toInt32), (Value.int ii)]))
      have hNl : N.toInt32.toInt = (N : Int) := len_toInt (by omega)
      refine own_icmp_ge X1 hx hby own_d8_7 (pc' := 20) (by decide) (by decide) (fun hb2 => ?_) (fun hb2 => by exfalso; rw [Int32.lt_iff_toInt_lt] at hb2; omega)
      show own_G p e below s _ _ _ (T1.setTop (mkF m 20 #[.val (Value.ref b), .val (Value.int x1), .val (Value.int ii), .val (Value.int N.toInt32)] []))
      refine own_ret0 X1 hx hby hlk Bd.returns own_d8_20 (by decide) (by decide) ?_
      show own_rmF_Q Z b x1 N G h0 n0 _ T1.heap _
      rw [e1]
      have Afin : own_Ar Z h1 b .int N (fun _ => Value.int x1) := own_Ar.fn A1_b (fun j hj => by show Value.int (if j < i then x1 else G j) = _; rw [if_pos (by omega)])
      exact ⟨rfl, N1, K1, Afin⟩
    | succ n ih =>
      intro T1 h1 lo1 ii i X1 e1 N1 O1 K1 A1_b hi hn
      show own_G p e below s _ _ _ (T1.setTop (mkF m 5 #[.val (Value.ref b), .val (Value.int x1), .val (Value.int ii), .val (Value.int N.toInt32)] []))
      refine own_iloadN X1 hx hby own_d8_5 rfl ?_
      show own_G p e below s _ _ _ (T1.setTop (mkF m 6 #[.val (Value.ref b), .val (Value.int x1), .val (Value.int ii), .val (Value.int N.toInt32)] [(Value.int ii)]))
      refine own_iloadN X1 hx hby own_d8_6 rfl ?_
      show own_G p e below s _ _ _ (T1.setTop (mkF m 7 #[.val (Value.ref b), .val (Value.int x1), .val (Value.int ii), .val (Value.int N.toInt32)] [(Value.int N.toInt32), (Value.int ii)]))
      have hNl : N.toInt32.toInt = (N : Int) := len_toInt (by omega)
      refine own_icmp_ge X1 hx hby own_d8_7 (pc' := 20) (by decide) (by decide) (fun hb3 => by exfalso; apply hb3; rw [Int32.lt_iff_toInt_lt]; omega) (fun hb3 => ?_)
      show own_G p e below s _ _ _ (T1.setTop (mkF m 10 #[.val (Value.ref b), .val (Value.int x1), .val (Value.int ii), .val (Value.int N.toInt32)] []))
      refine own_aloadN X1 hx hby own_d8_10 rfl rfl ?_
      show own_G p e below s _ _ _ (T1.setTop (mkF m 11 #[.val (Value.ref b), .val (Value.int x1), .val (Value.int ii), .val (Value.int N.toInt32)] [(Value.ref b)]))
      refine own_iloadN X1 hx hby own_d8_11 rfl ?_
      show own_G p e below s _ _ _ (T1.setTop (mkF m 12 #[.val (Value.ref b), .val (Value.int x1), .val (Value.int ii), .val (Value.int N.toInt32)] [(Value.int ii), (Value.ref b)]))
      refine own_iloadN X1 hx hby own_d8_12 rfl ?_
      show own_G p e below s _ _ _ (T1.setTop (mkF m 13 #[.val (Value.ref b), .val (Value.int x1), .val (Value.int ii), .val (Value.int N.toInt32)] [(Value.int x1), (Value.int ii), (Value.ref b)]))
      obtain ⟨T4, h4, X4, e4, W4, A4, st4⟩ := own_iastore X1 hx hby hZ e1 A1_b (j := ii) (i := i) hi (by omega) (x := x1) own_d8_13 (Ls := #[.val (Value.ref b), .val (Value.int x1), .val (Value.int ii), .val (Value.int N.toInt32)]) (st := [])
      have O5 := Old.wr O1 W4 g_b
      have N4 := Fr.snoc X4 N1 g_b
      have K4 := Keep.wr K1 W4 (Or.inl (List.mem_of_getElem? (i := 0) rfl))
      have A4n : own_Ar Z h4 b .int N (fun j => Value.int ((own_fl G x1 (i + 1)) j)) := own_Ar.fn A4 (own_fl_set G x1 i)
      refine own_st st4 ?_
      show own_G p e below s _ _ _ (T4.setTop (mkF m 14 #[.val (Value.ref b), .val (Value.int x1), .val (Value.int ii), .val (Value.int N.toInt32)] []))
      refine own_iinc X4 hx hby own_d8_14 rfl (l' := #[.val (Value.ref b), .val (Value.int x1), .val (Value.int (ii + (1 : Int32))), .val (Value.int N.toInt32)]) rfl ?_
      show own_G p e below s _ _ _ (T4.setTop (mkF m 17 #[.val (Value.ref b), .val (Value.int x1), .val (Value.int (ii + (1 : Int32))), .val (Value.int N.toInt32)] []))
      refine own_goto X4 hx hby own_d8_17 (pc' := 5) (by decide) (by decide) ?_
      show own_G p e below s _ _ _ (T4.setTop (mkF m 5 #[.val (Value.ref b), .val (Value.int x1), .val (Value.int (ii + (1 : Int32))), .val (Value.int N.toInt32)] []))
      exact ih _ _ _ _ (i + 1) X4 e4 N4 O5 K4 A4n (own_inc hi (by omega)) (by omega)
  exact loop N _ _ _ _ 0 X0 e0 N0 O0 (Keep.refl h0 [b]) (own_Ar.fn A_b (fun j _ => (if_neg (Nat.not_lt_zero j) : own_fl G x1 0 j = G j) ▸ rfl)) (by decide) (by omega)
def own_rmD_Q (Z : State) (a : Addr) (x1 : Int32) (lim : Int32) (kv kl kd : Addr) (n : Nat) (V D : Nat → Int32) (h0 : Heap) (n0 : Nat) : Option Value → Heap → List Loc → Prop := fun v h L => v = some (Value.int (own_dep n V D x1)) ∧ h = h0 ∧ Fr n0 L
theorem own_rmD_ef (m : MethodId) (a : Addr) (x1 : Int32)  : entryFrame m #[(Value.ref a), (Value.int x1)] 3 = mkF m 0 #[.val (Value.ref a), .val (Value.int x1), .unset] [] := by first | (simp [entryFrame, mkF, argsToLocals, Value.category]; done) | rfl
set_option maxRecDepth 65536 in
set_option maxHeartbeats 40000000 in
theorem own_rmD (l : Launch) (Z : State) (a0 : Array Value) (hw : ∀ d ∈ tables_1, d.before a0 Z = true) (ws : List Jvm.Cond) (a : Addr) (x1 : Int32) (lim : Int32) (kv kl kd : Addr) (n : Nat) (V D : Nat → Int32) (h0 : Heap) (n0 : Nat) (O0 : Old Z n0 h0) (E_a : Exa Z h0 a "com/example/tuck/tuck/ListWindow") (F_lim : Fld Z h0 a "com/example/tuck/tuck/ListWindow" "limit" "I" (.int lim)) (F_v : Fld Z h0 a "com/example/tuck/tuck/ListWindow" "vertices" "[I" (.ref kv)) (F_l : Fld Z h0 a "com/example/tuck/tuck/ListWindow" "lists" "[[I" (.ref kl)) (F_d : Fld Z h0 a "com/example/tuck/tuck/ListWindow" "depths" "[I" (.ref kd)) (A_v : own_Ar Z h0 kv .int n (fun j => Value.int (V j))) (A_l : own_Ar Z h0 kl (.array .int) n (fun _ => Value.null)) (A_d : own_Ar Z h0 kd .int n (fun j => Value.int (D j))) (ga : n0 ≤ a) (gv : n0 ≤ kv) (gl : n0 ≤ kl) (gd : n0 ≤ kd) (nav : a ≠ kv) (nal : a ≠ kl) (nad : a ≠ kd) (nvl : kv ≠ kl) (nvd : kv ≠ kd) (nld : kl ≠ kd) (hpw : own_pw n) :
    MetFree l (⟨"com/example/tuck/tuck/ListWindow", "depth", "(I)I"⟩ : MethodName) (head1 (Jvm.Cond.code (⟨"com/example/tuck/tuck/ListWindow", "depth", "(I)I"⟩ : MethodName) prog_53_method_6_code 3 (some .int) :: ws) ({ frames := 0, cells := 0, slots := 0, locals := 0 } : Room)) (fun aa_ U => aa_ = #[(Value.ref a), (Value.int x1)] ∧ Z.Warmed39 U.vm ∧ U.heap = h0) (fun _ _ _ _ _ => True) (fun _ UU_ oo_ UX_ => ∃ vv_ LL_, oo_ = .returned vv_ ∧ (own_rmD_Q Z a x1 lim kv kl kd n V D h0 n0) vv_ UX_.heap LL_ ∧ FrameEnd UU_ oo_ UX_ LL_ ({ frames := 0, cells := 0, slots := 0, locals := 0 } : Room).cells ({ frames := 0, cells := 0, slots := 0, locals := 0 } : Room).slots) := by
  refine MetFree.of_bodySF (plainFor_of_name own_pn2) hisR ?_
  intro p e s m args below meth c s₁ Bd hml0 hP hK
  obtain ⟨rfl, hZ, hh⟩ := hP
  have hx := Bd.exec
  have hby := Bd.bytes
  have hml : c.maxLocals = 3 := hml0
  have hown : s.vm.findClass "com/example/tuck/tuck/ListWindow" = some m.cls := findClass_of_methodNamed Bd.named
  have hnm := (name_of_methodNamed Bd.named Bd.method).1
  have hlk : meth.locks = false := BodyLoose.notSynchronized Bd
  have X0 : Stand p l e ({ frames := 0, cells := 0, slots := 0, locals := 0 } : Room) s m #[(Value.ref a), (Value.int x1)] below meth c s₁ [] 0 0 := Stand.of_body Bd
  have e0 : s₁.heap = h0 := by rw [← hh, Bd.state]; rfl
  have N0 := Fr.nil n0
  show own_G p e below s (own_rmD_Q Z a x1 lim kv kl kd n V D h0 n0) ({ frames := 0, cells := 0, slots := 0, locals := 0 } : Room).cells ({ frames := 0, cells := 0, slots := 0, locals := 0 } : Room).slots (s₁.setTop (entryFrame m #[(Value.ref a), (Value.int x1)] 3))
  refine own_cast (own_rmD_ef m a x1 ) ?_
  show own_G p e below s _ _ _ (s₁.setTop (mkF m 0 #[.val (Value.ref a), .val (Value.int x1), .unset] []))
  refine own_iloadN X0 hx hby own_d10_0 rfl ?_
  show own_G p e below s _ _ _ (s₁.setTop (mkF m 1 #[.val (Value.ref a), .val (Value.int x1), .unset] [(Value.int x1)]))
  refine own_aloadN X0 hx hby own_d10_1 rfl rfl ?_
  show own_G p e below s _ _ _ (s₁.setTop (mkF m 2 #[.val (Value.ref a), .val (Value.int x1), .unset] [(Value.ref a), (Value.int x1)]))
  obtain ⟨T1, X1, e1, st1⟩ := getF X0 hx hZ hown (host := "") (Or.inl (own_w33 hw)) Via.refl e0 F_v (g := (mkF m 2 #[.val (Value.ref a), .val (Value.int x1), .unset] [(Value.ref a), (Value.int x1)])) rfl rfl (hb hby own_d10_2)
  refine own_st st1 ?_
  show own_G p e below s _ _ _ (T1.setTop (mkF m 5 #[.val (Value.ref a), .val (Value.int x1), .unset] [(Value.ref kv), (Value.int x1)]))
  refine own_alen X1 hx hby hZ e1 A_v own_d10_5 ?_
  show own_G p e below s _ _ _ (T1.setTop (mkF m 6 #[.val (Value.ref a), .val (Value.int x1), .unset] [(Value.int n.toInt32), (Value.int x1)]))
  refine own_iconst X1 hx hby own_d10_6 ?_
  show own_G p e below s _ _ _ (T1.setTop (mkF m 7 #[.val (Value.ref a), .val (Value.int x1), .unset] [(Value.int (1 : Int32)), (Value.int n.toInt32), (Value.int x1)]))
  refine own_isub X1 hx hby own_d10_7 ?_
  show own_G p e below s _ _ _ (T1.setTop (mkF m 8 #[.val (Value.ref a), .val (Value.int x1), .unset] [(Value.int (n.toInt32 - (1 : Int32))), (Value.int x1)]))
  refine own_iand X1 hx hby own_d10_8 ?_
  show own_G p e below s _ _ _ (T1.setTop (mkF m 9 #[.val (Value.ref a), .val (Value.int x1), .unset] [(Value.int (x1 &&& (n.toInt32 - (1 : Int32))))]))
  refine own_istoreN X1 hx hby own_d10_9 (l' := #[.val (Value.ref a), .val (Value.int x1), .val (Value.int (x1 &&& (n.toInt32 - (1 : Int32))))]) rfl ?_
  show own_G p e below s _ _ _ (T1.setTop (mkF m 10 #[.val (Value.ref a), .val (Value.int x1), .val (Value.int (x1 &&& (n.toInt32 - (1 : Int32))))] []))
  refine own_iloadN X1 hx hby own_d10_10 rfl ?_
  show own_G p e below s _ _ _ (T1.setTop (mkF m 11 #[.val (Value.ref a), .val (Value.int x1), .val (Value.int (x1 &&& (n.toInt32 - (1 : Int32))))] [(Value.int x1)]))
  refine own_if_lt X1 hx hby own_d10_11 (pc' := 33) (by decide) (by decide) (fun hb2 => ?_) (fun hb2 => ?_)
  · show own_G p e below s _ _ _ (T1.setTop (mkF m 33 #[.val (Value.ref a), .val (Value.int x1), .val (Value.int (x1 &&& (n.toInt32 - (1 : Int32))))] []))
    refine own_iconst X1 hx hby own_d10_33 ?_
    show own_G p e below s _ _ _ (T1.setTop (mkF m 34 #[.val (Value.ref a), .val (Value.int x1), .val (Value.int (x1 &&& (n.toInt32 - (1 : Int32))))] [(Value.int (0 : Int32))]))
    refine own_retI X1 hx hby hlk Bd.returns own_d10_34 (by decide) (by decide) ?_
    refine ⟨?_, e1, N0⟩
    show some (Value.int (0 : Int32)) = _
    simp only [own_dep, if_pos hb2]
  · show own_G p e below s _ _ _ (T1.setTop (mkF m 14 #[.val (Value.ref a), .val (Value.int x1), .val (Value.int (x1 &&& (n.toInt32 - (1 : Int32))))] []))
    refine own_aloadN X1 hx hby own_d10_14 rfl rfl ?_
    show own_G p e below s _ _ _ (T1.setTop (mkF m 15 #[.val (Value.ref a), .val (Value.int x1), .val (Value.int (x1 &&& (n.toInt32 - (1 : Int32))))] [(Value.ref a)]))
    obtain ⟨T3, X3, e3, st3⟩ := getF X1 hx hZ hown (host := "") (Or.inl (own_w33 hw)) Via.refl e1 F_v (g := (mkF m 15 #[.val (Value.ref a), .val (Value.int x1), .val (Value.int (x1 &&& (n.toInt32 - (1 : Int32))))] [(Value.ref a)])) rfl rfl (hb hby own_d10_15)
    refine own_st st3 ?_
    show own_G p e below s _ _ _ (T3.setTop (mkF m 18 #[.val (Value.ref a), .val (Value.int x1), .val (Value.int (x1 &&& (n.toInt32 - (1 : Int32))))] [(Value.ref kv)]))
    refine own_iloadN X3 hx hby own_d10_18 rfl ?_
    show own_G p e below s _ _ _ (T3.setTop (mkF m 19 #[.val (Value.ref a), .val (Value.int x1), .val (Value.int (x1 &&& (n.toInt32 - (1 : Int32))))] [(Value.int (x1 &&& (n.toInt32 - (1 : Int32)))), (Value.ref kv)]))
    refine own_iaload X3 hx hby hZ e3 A_v (j := (x1 &&& (n.toInt32 - (1 : Int32)))) (i := (own_ix n x1)) (own_and_ix hpw x1).1 (own_and_ix hpw x1).2 own_d10_19 ?_
    show own_G p e below s _ _ _ (T3.setTop (mkF m 20 #[.val (Value.ref a), .val (Value.int x1), .val (Value.int (x1 &&& (n.toInt32 - (1 : Int32))))] [(Value.int (V (own_ix n x1)))]))
    refine own_iloadN X3 hx hby own_d10_20 rfl ?_
    show own_G p e below s _ _ _ (T3.setTop (mkF m 21 #[.val (Value.ref a), .val (Value.int x1), .val (Value.int (x1 &&& (n.toInt32 - (1 : Int32))))] [(Value.int x1), (Value.int (V (own_ix n x1)))]))
    refine own_icmp_ne X3 hx hby own_d10_21 (pc' := 33) (by decide) (by decide) (fun hb4 => ?_) (fun hb4 => ?_)
    · show own_G p e below s _ _ _ (T3.setTop (mkF m 33 #[.val (Value.ref a), .val (Value.int x1), .val (Value.int (x1 &&& (n.toInt32 - (1 : Int32))))] []))
      refine own_iconst X3 hx hby own_d10_33 ?_
      show own_G p e below s _ _ _ (T3.setTop (mkF m 34 #[.val (Value.ref a), .val (Value.int x1), .val (Value.int (x1 &&& (n.toInt32 - (1 : Int32))))] [(Value.int (0 : Int32))]))
      refine own_retI X3 hx hby hlk Bd.returns own_d10_34 (by decide) (by decide) ?_
      refine ⟨?_, e3, N0⟩
      show some (Value.int (0 : Int32)) = _
      simp only [own_dep, if_neg hb2, if_neg hb4]
    · show own_G p e below s _ _ _ (T3.setTop (mkF m 24 #[.val (Value.ref a), .val (Value.int x1), .val (Value.int (x1 &&& (n.toInt32 - (1 : Int32))))] []))
      refine own_aloadN X3 hx hby own_d10_24 rfl rfl ?_
      show own_G p e below s _ _ _ (T3.setTop (mkF m 25 #[.val (Value.ref a), .val (Value.int x1), .val (Value.int (x1 &&& (n.toInt32 - (1 : Int32))))] [(Value.ref a)]))
      obtain ⟨T5, X5, e5, st5⟩ := getF X3 hx hZ hown (host := "") (Or.inl (own_w39 hw)) Via.refl e3 F_d (g := (mkF m 25 #[.val (Value.ref a), .val (Value.int x1), .val (Value.int (x1 &&& (n.toInt32 - (1 : Int32))))] [(Value.ref a)])) rfl rfl (hb hby own_d10_25)
      refine own_st st5 ?_
      show own_G p e below s _ _ _ (T5.setTop (mkF m 28 #[.val (Value.ref a), .val (Value.int x1), .val (Value.int (x1 &&& (n.toInt32 - (1 : Int32))))] [(Value.ref kd)]))
      refine own_iloadN X5 hx hby own_d10_28 rfl ?_
      show own_G p e below s _ _ _ (T5.setTop (mkF m 29 #[.val (Value.ref a), .val (Value.int x1), .val (Value.int (x1 &&& (n.toInt32 - (1 : Int32))))] [(Value.int (x1 &&& (n.toInt32 - (1 : Int32)))), (Value.ref kd)]))
      refine own_iaload X5 hx hby hZ e5 A_d (j := (x1 &&& (n.toInt32 - (1 : Int32)))) (i := (own_ix n x1)) (own_and_ix hpw x1).1 (own_and_ix hpw x1).2 own_d10_29 ?_
      show own_G p e below s _ _ _ (T5.setTop (mkF m 30 #[.val (Value.ref a), .val (Value.int x1), .val (Value.int (x1 &&& (n.toInt32 - (1 : Int32))))] [(Value.int (D (own_ix n x1)))]))
      refine own_goto X5 hx hby own_d10_30 (pc' := 34) (by decide) (by decide) ?_
      show own_G p e below s _ _ _ (T5.setTop (mkF m 34 #[.val (Value.ref a), .val (Value.int x1), .val (Value.int (x1 &&& (n.toInt32 - (1 : Int32))))] [(Value.int (D (own_ix n x1)))]))
      refine own_retI X5 hx hby hlk Bd.returns own_d10_34 (by decide) (by decide) ?_
      refine ⟨?_, e5, N0⟩
      show some (Value.int (D (own_ix n x1))) = _
      simp only [own_dep, if_neg hb2, if_pos hb4]
def own_rmC_Q (Z : State) (a : Addr) (lim : Int32) (kv kl kd : Addr) (n : Nat) (V D : Nat → Int32) (h0 : Heap) (n0 : Nat) : Option Value → Heap → List Loc → Prop := fun v h L => v = none ∧ Fr n0 L ∧ Keep h0 h [kv] ∧ own_Ar Z h kv .int n (fun j => Value.int ((fun _ => (-1 : Int32)) j))
theorem own_rmC_ef (m : MethodId) (a : Addr)  : entryFrame m #[(Value.ref a)] 1 = mkF m 0 #[.val (Value.ref a)] [] := by first | (simp [entryFrame, mkF, argsToLocals, Value.category]; done) | rfl
set_option maxRecDepth 65536 in
set_option maxHeartbeats 40000000 in
theorem own_rmC (l : Launch) (Z : State) (a0 : Array Value) (hw : ∀ d ∈ tables_1, d.before a0 Z = true) (ws : List Jvm.Cond) (a : Addr) (lim : Int32) (kv kl kd : Addr) (n : Nat) (V D : Nat → Int32) (h0 : Heap) (n0 : Nat) (O0 : Old Z n0 h0) (E_a : Exa Z h0 a "com/example/tuck/tuck/ListWindow") (F_lim : Fld Z h0 a "com/example/tuck/tuck/ListWindow" "limit" "I" (.int lim)) (F_v : Fld Z h0 a "com/example/tuck/tuck/ListWindow" "vertices" "[I" (.ref kv)) (F_l : Fld Z h0 a "com/example/tuck/tuck/ListWindow" "lists" "[[I" (.ref kl)) (F_d : Fld Z h0 a "com/example/tuck/tuck/ListWindow" "depths" "[I" (.ref kd)) (A_v : own_Ar Z h0 kv .int n (fun j => Value.int (V j))) (A_l : own_Ar Z h0 kl (.array .int) n (fun _ => Value.null)) (A_d : own_Ar Z h0 kd .int n (fun j => Value.int (D j))) (ga : n0 ≤ a) (gv : n0 ≤ kv) (gl : n0 ≤ kl) (gd : n0 ≤ kd) (nav : a ≠ kv) (nal : a ≠ kl) (nad : a ≠ kd) (nvl : kv ≠ kl) (nvd : kv ≠ kd) (nld : kl ≠ kd) (hN : n ≤ 128) :
    MetFree l (⟨"com/example/tuck/tuck/ListWindow", "clear", "()V"⟩ : MethodName) (head1 (Jvm.Cond.code (⟨"com/example/tuck/tuck/ListWindow", "clear", "()V"⟩ : MethodName) prog_53_method_2_code 1 none :: ws) ({ frames := 1, cells := 0, slots := 0, locals := 15 } : Room)) (fun aa_ U => aa_ = #[(Value.ref a)] ∧ Z.Warmed39 U.vm ∧ U.heap = h0) (fun _ _ _ _ _ => True) (fun _ UU_ oo_ UX_ => ∃ vv_ LL_, oo_ = .returned vv_ ∧ (own_rmC_Q Z a lim kv kl kd n V D h0 n0) vv_ UX_.heap LL_ ∧ FrameEnd UU_ oo_ UX_ LL_ ({ frames := 1, cells := 0, slots := 0, locals := 15 } : Room).cells ({ frames := 1, cells := 0, slots := 0, locals := 15 } : Room).slots) := by
  refine MetFree.of_bodySF (plainFor_of_name own_pn2) hisR ?_
  intro p e s m args below meth c s₁ Bd hml0 hP hK
  obtain ⟨rfl, hZ, hh⟩ := hP
  have hx := Bd.exec
  have hby := Bd.bytes
  have hml : c.maxLocals = 1 := hml0
  have hown : s.vm.findClass "com/example/tuck/tuck/ListWindow" = some m.cls := findClass_of_methodNamed Bd.named
  have hnm := (name_of_methodNamed Bd.named Bd.method).1
  have hlk : meth.locks = false := BodyLoose.notSynchronized Bd
  have X0 : Stand p l e ({ frames := 1, cells := 0, slots := 0, locals := 15 } : Room) s m #[(Value.ref a)] below meth c s₁ [] 0 0 := Stand.of_body Bd
  have e0 : s₁.heap = h0 := by rw [← hh, Bd.state]; rfl
  have N0 := Fr.nil n0
  show own_G p e below s (own_rmC_Q Z a lim kv kl kd n V D h0 n0) ({ frames := 1, cells := 0, slots := 0, locals := 15 } : Room).cells ({ frames := 1, cells := 0, slots := 0, locals := 15 } : Room).slots (s₁.setTop (entryFrame m #[(Value.ref a)] 1))
  refine own_cast (own_rmC_ef m a ) ?_
  show own_G p e below s _ _ _ (s₁.setTop (mkF m 0 #[.val (Value.ref a)] []))
  refine own_aloadN X0 hx hby own_d11_0 rfl rfl ?_
  show own_G p e below s _ _ _ (s₁.setTop (mkF m 1 #[.val (Value.ref a)] [(Value.ref a)]))
  obtain ⟨T1, X1, e1, st1⟩ := getF X0 hx hZ hown (host := "") (Or.inl (own_w33 hw)) Via.refl e0 F_v (g := (mkF m 1 #[.val (Value.ref a)] [(Value.ref a)])) rfl rfl (hb hby own_d11_1)
  refine own_st st1 ?_
  show own_G p e below s _ _ _ (T1.setTop (mkF m 4 #[.val (Value.ref a)] [(Value.ref kv)]))
  refine own_iconst X1 hx hby own_d11_4 ?_
  show own_G p e below s _ _ _ (T1.setTop (mkF m 5 #[.val (Value.ref a)] [(Value.int (-1 : Int32)), (Value.ref kv)]))
  obtain ⟨_, _, ⟨T2, L2, k2, n2⟩, -, X2, ⟨Lc2, hQ2, l2, y2, z2⟩, st2⟩ := Jvm.LawKit.callS X1 hx (y := (⟨"java/util/Arrays", "fill", "([II)V"⟩ : MethodName)) hown (mvT hZ (own_w41 hw)) (mvT hZ (own_w42 hw)) (mvT hZ (own_w43 hw)) (mvT hZ (own_w44 hw)) (by decide) (backOf (W := 0) (own_rmF l Z a0 hw [] kv (-1 : Int32) n V h0 n0 O0 A_v gv hN) hZ (own_w44 hw) (own_w43 hw) (by decide) (by decide)) (g := (mkF m 5 #[.val (Value.ref a)] [(Value.int (-1 : Int32)), (Value.ref kv)])) rfl (by rw [hml]; rfl) (argsL := [(Value.ref kv), (Value.int (-1 : Int32))]) (rest := []) (lenOf own_pd1 rfl) rfl (by show 2 * 0 + _ ≤ _; exact Nat.le_of_eq rfl) (hb hby own_d11_5) (fun _ _ => ⟨rfl, e1, (by decide : (0 : Nat) + 0 ≤ _), (by decide : (0 : Nat) + 0 ≤ _)⟩)
  dsimp only [Pt.U, Pt.locs, Pt.cells, Pt.slots] at X2 l2 y2 z2 st2 hQ2
  subst l2 y2 z2
  obtain ⟨rfl, Nq2, Kq2, Aq2⟩ := hQ2
  have N2 := Fr.app N0 Nq2
  have F3_a_limit := Fld.keep F_lim Kq2 (ninS nav nin0)
  have F3_a_vertices := Fld.keep F_v Kq2 (ninS nav nin0)
  have F3_a_lists := Fld.keep F_l Kq2 (ninS nav nin0)
  have F3_a_depths := Fld.keep F_d Kq2 (ninS nav nin0)
  have E3_a := Exa.keep E_a Kq2
  have A3_kl := own_Ar.keep A_l Kq2 (ninS (Ne.symm nvl) nin0)
  have A3_kd := own_Ar.keep A_d Kq2 (ninS (Ne.symm nvd) nin0)
  have O3 := Old.keep O0 Kq2 (allS gv all0)
  have K2 := Keep.trans (Keep.refl h0 [kv]) Kq2 (allS (Or.inl (List.mem_of_getElem? (i := 0) rfl)) all0)
  refine own_st st2 ?_
  show own_G p e below s _ _ _ (T2.setTop (mkF m 8 #[.val (Value.ref a)] []))
  refine own_ret0 X2 hx hby hlk Bd.returns own_d11_8 (by decide) (by decide) ?_
  show own_rmC_Q Z a lim kv kl kd n V D h0 n0 _ T2.heap _
  skip
  exact ⟨rfl, N2, K2, Aq2⟩
def own_rmI_Q (Z : State) (a : Addr) (x1 : Int32) (x2 : Int32)  (h0 : Heap) (n0 : Nat) : Option Value → Heap → List Loc → Prop := fun v h L => v = none ∧ Fr n0 L ∧ Keep h0 h [a] ∧ ∃ kv kl kd n, h0.size ≤ kv ∧ h0.size ≤ kl ∧ h0.size ≤ kd ∧ own_pw n ∧ ((own_lm (own_need x1 x2)).toInt = (n : Int) ∨ (n = 64 ∧ (own_lm (own_need x1 x2)).toInt = (128 : Nat))) ∧ Exa Z h a "com/example/tuck/tuck/ListWindow" ∧ Fld Z h a "com/example/tuck/tuck/ListWindow" "limit" "I" (.int (own_lm (own_need x1 x2))) ∧ Fld Z h a "com/example/tuck/tuck/ListWindow" "vertices" "[I" (.ref kv) ∧ Fld Z h a "com/example/tuck/tuck/ListWindow" "lists" "[[I" (.ref kl) ∧ Fld Z h a "com/example/tuck/tuck/ListWindow" "depths" "[I" (.ref kd) ∧ own_Ar Z h kv .int n (fun j => Value.int ((fun _ => (-1 : Int32)) j)) ∧ own_Ar Z h kl (.array .int) n (fun _ => Value.null) ∧ own_Ar Z h kd .int n (fun j => Value.int ((fun _ => (0 : Int32)) j)) ∧ n0 ≤ kv ∧ n0 ≤ kl ∧ n0 ≤ kd ∧ a ≠ kv ∧ a ≠ kl ∧ a ≠ kd ∧ kv ≠ kl ∧ kv ≠ kd ∧ kl ≠ kd
theorem own_rmI_ef (m : MethodId) (a : Addr) (x1 : Int32) (x2 : Int32)  : entryFrame m #[(Value.ref a), (Value.int x1), (Value.int x2)] 5 = mkF m 0 #[.val (Value.ref a), .val (Value.int x1), .val (Value.int x2), .unset, .unset] [] := by first | (simp [entryFrame, mkF, argsToLocals, Value.category]; done) | rfl
set_option maxRecDepth 65536 in
set_option maxHeartbeats 40000000 in
theorem own_rmI (l : Launch) (Z : State) (a0 : Array Value) (hw : ∀ d ∈ tables_1, d.before a0 Z = true) (ws : List Jvm.Cond) (a : Addr) (x1 : Int32) (x2 : Int32)  (h0 : Heap) (n0 : Nat) (O0 : Old Z n0 h0) (E_a : Exa Z h0 a "com/example/tuck/tuck/ListWindow") (F_a_limit : Fld Z h0 a "com/example/tuck/tuck/ListWindow" "limit" "I" (Value.int (0 : Int32))) (F_a_vertices : Fld Z h0 a "com/example/tuck/tuck/ListWindow" "vertices" "[I" Value.null) (F_a_lists : Fld Z h0 a "com/example/tuck/tuck/ListWindow" "lists" "[[I" Value.null) (F_a_depths : Fld Z h0 a "com/example/tuck/tuck/ListWindow" "depths" "[I" Value.null) (g_a : n0 ≤ a) (hw1 : 0 ≤ x1.toInt) (hw2 : x1.toInt ≤ 127) (hc1 : 1 ≤ x2.toInt) :
    MetFree l (⟨"com/example/tuck/tuck/ListWindow", "<init>", "(II)V"⟩ : MethodName) (head1 (Jvm.Cond.code (⟨"com/example/tuck/tuck/ListWindow", "<init>", "(II)V"⟩ : MethodName) prog_53_method_1_code 5 none :: ws) ({ frames := 2, cells := 3, slots := 192, locals := 27 } : Room)) (fun aa_ U => aa_ = #[(Value.ref a), (Value.int x1), (Value.int x2)] ∧ Z.Warmed39 U.vm ∧ U.heap = h0) (fun _ _ _ _ _ => True) (fun _ UU_ oo_ UX_ => ∃ vv_ LL_, oo_ = .returned vv_ ∧ (own_rmI_Q Z a x1 x2 h0 n0) vv_ UX_.heap LL_ ∧ FrameEnd UU_ oo_ UX_ LL_ ({ frames := 2, cells := 3, slots := 192, locals := 27 } : Room).cells ({ frames := 2, cells := 3, slots := 192, locals := 27 } : Room).slots) := by
  refine MetFree.of_bodySF (plainFor_of_name own_pn2) hisR ?_
  intro p e s m args below meth c s₁ Bd hml0 hP hK
  obtain ⟨rfl, hZ, hh⟩ := hP
  have hx := Bd.exec
  have hby := Bd.bytes
  have hml : c.maxLocals = 5 := hml0
  have hown : s.vm.findClass "com/example/tuck/tuck/ListWindow" = some m.cls := findClass_of_methodNamed Bd.named
  have hnm := (name_of_methodNamed Bd.named Bd.method).1
  have hlk : meth.locks = false := BodyLoose.notSynchronized Bd
  have X0 : Stand p l e ({ frames := 2, cells := 3, slots := 192, locals := 27 } : Room) s m #[(Value.ref a), (Value.int x1), (Value.int x2)] below meth c s₁ [] 0 0 := Stand.of_body Bd
  have e0 : s₁.heap = h0 := by rw [← hh, Bd.state]; rfl
  have N0 := Fr.nil n0
  show own_G p e below s (own_rmI_Q Z a x1 x2 h0 n0) ({ frames := 2, cells := 3, slots := 192, locals := 27 } : Room).cells ({ frames := 2, cells := 3, slots := 192, locals := 27 } : Room).slots (s₁.setTop (entryFrame m #[(Value.ref a), (Value.int x1), (Value.int x2)] 5))
  refine own_cast (own_rmI_ef m a x1 x2 ) ?_
  show own_G p e below s _ _ _ (s₁.setTop (mkF m 0 #[.val (Value.ref a), .val (Value.int x1), .val (Value.int x2), .unset, .unset] []))
  refine own_aloadN X0 hx hby own_d1_0 rfl rfl ?_
  show own_G p e below s _ _ _ (s₁.setTop (mkF m 1 #[.val (Value.ref a), .val (Value.int x1), .val (Value.int x2), .unset, .unset] [(Value.ref a)]))
  obtain ⟨T1, X1, e1, st1⟩ := initO X0 hx hZ hown (own_w8 hw) (own_w9 hw) (own_w10 hw) e0 (g := (mkF m 1 #[.val (Value.ref a), .val (Value.int x1), .val (Value.int x2), .unset, .unset] [(Value.ref a)])) rfl (by rw [hml]; rfl) rfl (hb hby own_d1_1) (by decide) (W := 0) (by show 2 * 0 + _ ≤ _; exact Nat.le_of_eq rfl) (by decide)
  refine own_st st1 ?_
  show own_G p e below s _ _ _ (T1.setTop (mkF m 4 #[.val (Value.ref a), .val (Value.int x1), .val (Value.int x2), .unset, .unset] []))
  refine own_lconst X1 hx hby own_d1_4 ?_
  show own_G p e below s _ _ _ (T1.setTop (mkF m 5 #[.val (Value.ref a), .val (Value.int x1), .val (Value.int x2), .unset, .unset] [(Value.long (1 : Int64))]))
  refine own_iloadN X1 hx hby own_d1_5 rfl ?_
  show own_G p e below s _ _ _ (T1.setTop (mkF m 6 #[.val (Value.ref a), .val (Value.int x1), .val (Value.int x2), .unset, .unset] [(Value.int x1), (Value.long (1 : Int64))]))
  refine own_i2l X1 hx hby own_d1_6 ?_
  show own_G p e below s _ _ _ (T1.setTop (mkF m 7 #[.val (Value.ref a), .val (Value.int x1), .val (Value.int x2), .unset, .unset] [(Value.long (x1.toInt64)), (Value.long (1 : Int64))]))
  refine own_lconst X1 hx hby own_d1_7 ?_
  show own_G p e below s _ _ _ (T1.setTop (mkF m 8 #[.val (Value.ref a), .val (Value.int x1), .val (Value.int x2), .unset, .unset] [(Value.long (1 : Int64)), (Value.long (x1.toInt64)), (Value.long (1 : Int64))]))
  refine own_ladd X1 hx hby own_d1_8 ?_
  show own_G p e below s _ _ _ (T1.setTop (mkF m 9 #[.val (Value.ref a), .val (Value.int x1), .val (Value.int x2), .unset, .unset] [(Value.long ((x1.toInt64) + (1 : Int64))), (Value.long (1 : Int64))]))
  refine own_iloadN X1 hx hby own_d1_9 rfl ?_
  show own_G p e below s _ _ _ (T1.setTop (mkF m 10 #[.val (Value.ref a), .val (Value.int x1), .val (Value.int x2), .unset, .unset] [(Value.int x2), (Value.long ((x1.toInt64) + (1 : Int64))), (Value.long (1 : Int64))]))
  refine own_i2l X1 hx hby own_d1_10 ?_
  show own_G p e below s _ _ _ (T1.setTop (mkF m 11 #[.val (Value.ref a), .val (Value.int x1), .val (Value.int x2), .unset, .unset] [(Value.long (x2.toInt64)), (Value.long ((x1.toInt64) + (1 : Int64))), (Value.long (1 : Int64))]))
  obtain ⟨_, _, ⟨T2, L2, k2, n2⟩, -, X2, ⟨Lc2, hQ2, l2, y2, z2⟩, st2⟩ := Jvm.LawKit.callS X1 hx (y := (⟨"java/lang/Math", "min", "(JJ)J"⟩ : MethodName)) hown (mvT hZ (own_w11 hw)) (mvT hZ (own_w12 hw)) (mvT hZ (own_w13 hw)) (mvT hZ (own_w14 hw)) (by decide) (backOf (W := 2) (own_rmMinJ l Z a0 hw [] ((x1.toInt64) + (1 : Int64)) (x2.toInt64)  h0 n0 O0  ) hZ (own_w14 hw) (own_w13 hw) (by decide) (by decide)) (g := (mkF m 11 #[.val (Value.ref a), .val (Value.int x1), .val (Value.int x2), .unset, .unset] [(Value.long (x2.toInt64)), (Value.long ((x1.toInt64) + (1 : Int64))), (Value.long (1 : Int64))])) rfl (by rw [hml]; rfl) (argsL := [(Value.long ((x1.toInt64) + (1 : Int64))), (Value.long (x2.toInt64))]) (rest := [(Value.long (1 : Int64))]) (lenOf own_pd2 rfl) rfl (by show 2 * 0 + _ ≤ _; exact Nat.le_of_eq rfl) (hb hby own_d1_11) (fun _ _ => ⟨rfl, e1, (by decide : (0 : Nat) + 0 ≤ _), (by decide : (0 : Nat) + 0 ≤ _)⟩)
  dsimp only [Pt.U, Pt.locs, Pt.cells, Pt.slots] at X2 l2 y2 z2 st2 hQ2
  subst l2 y2 z2
  obtain ⟨rfl, e2, Nq2⟩ := hQ2
  have N2 := Fr.app N0 Nq2
  refine own_st st2 ?_
  show own_G p e below s _ _ _ (T2.setTop (mkF m 14 #[.val (Value.ref a), .val (Value.int x1), .val (Value.int x2), .unset, .unset] [(Value.long (own_minJ ((x1.toInt64) + (1 : Int64)) (x2.toInt64))), (Value.long (1 : Int64))]))
  obtain ⟨_, _, ⟨T3, L3, k3, n3⟩, -, X3, ⟨Lc3, hQ3, l3, y3, z3⟩, st3⟩ := Jvm.LawKit.callS X2 hx (y := (⟨"java/lang/Math", "max", "(JJ)J"⟩ : MethodName)) hown (mvT hZ (own_w15 hw)) (mvT hZ (own_w16 hw)) (mvT hZ (own_w13 hw)) (mvT hZ (own_w17 hw)) (by decide) (backOf (W := 0) (own_rmMaxJ l Z a0 hw [] (1 : Int64) (own_minJ ((x1.toInt64) + (1 : Int64)) (x2.toInt64))  h0 n0 O0  ) hZ (own_w17 hw) (own_w13 hw) (by decide) (by decide)) (g := (mkF m 14 #[.val (Value.ref a), .val (Value.int x1), .val (Value.int x2), .unset, .unset] [(Value.long (own_minJ ((x1.toInt64) + (1 : Int64)) (x2.toInt64))), (Value.long (1 : Int64))])) rfl (by rw [hml]; rfl) (argsL := [(Value.long (1 : Int64)), (Value.long (own_minJ ((x1.toInt64) + (1 : Int64)) (x2.toInt64)))]) (rest := []) (lenOf own_pd2 rfl) rfl (by show 2 * 0 + _ ≤ _; exact Nat.le_of_eq rfl) (hb hby own_d1_14) (fun _ _ => ⟨rfl, e2, (by decide : (0 : Nat) + 0 ≤ _), (by decide : (0 : Nat) + 0 ≤ _)⟩)
  dsimp only [Pt.U, Pt.locs, Pt.cells, Pt.slots] at X3 l3 y3 z3 st3 hQ3
  subst l3 y3 z3
  obtain ⟨rfl, e3, Nq3⟩ := hQ3
  have N3 := Fr.app N2 Nq3
  refine own_st st3 ?_
  show own_G p e below s _ _ _ (T3.setTop (mkF m 17 #[.val (Value.ref a), .val (Value.int x1), .val (Value.int x2), .unset, .unset] [(Value.long (own_maxJ (1 : Int64) (own_minJ ((x1.toInt64) + (1 : Int64)) (x2.toInt64))))]))
  refine own_l2i X3 hx hby own_d1_17 ?_
  show own_G p e below s _ _ _ (T3.setTop (mkF m 18 #[.val (Value.ref a), .val (Value.int x1), .val (Value.int x2), .unset, .unset] [(Value.int ((own_maxJ (1 : Int64) (own_minJ ((x1.toInt64) + (1 : Int64)) (x2.toInt64))).toInt32))]))
  show own_G p e below s _ _ _ (T3.setTop (mkF m 18 #[.val (Value.ref a), .val (Value.int x1), .val (Value.int x2), .unset, .unset] [(Value.int (own_need x1 x2))]))
  have hnd := own_need_eq hw1 hw2 hc1
  have hnd1 : 1 ≤ (own_need x1 x2).toInt := by omega
  have hnd2 : (own_need x1 x2).toInt ≤ 128 := by omega
  refine own_istoreN X3 hx hby own_d1_18 (l' := #[.val (Value.ref a), .val (Value.int x1), .val (Value.int x2), .val (Value.int (own_need x1 x2)), .unset]) rfl ?_
  show own_G p e below s _ _ _ (T3.setTop (mkF m 19 #[.val (Value.ref a), .val (Value.int x1), .val (Value.int x2), .val (Value.int (own_need x1 x2)), .unset] []))
  refine own_iloadN X3 hx hby own_d1_19 rfl ?_
  show own_G p e below s _ _ _ (T3.setTop (mkF m 20 #[.val (Value.ref a), .val (Value.int x1), .val (Value.int x2), .val (Value.int (own_need x1 x2)), .unset] [(Value.int (own_need x1 x2))]))
  obtain ⟨_, _, ⟨T4, L4, k4, n4⟩, -, X4, ⟨Lc4, hQ4, l4, y4, z4⟩, st4⟩ := Jvm.LawKit.callS X3 hx (y := (⟨"java/lang/Integer", "highestOneBit", "(I)I"⟩ : MethodName)) hown (mvT hZ (own_w18 hw)) (mvT hZ (own_w19 hw)) (mvT hZ (own_w20 hw)) (mvT hZ (own_w21 hw)) (by decide) (backOf (W := 0) (own_rmH l Z a0 hw [] (own_need x1 x2)  h0 n0 O0  hnd1 hnd2) hZ (own_w21 hw) (own_w20 hw) (by decide) (by decide)) (g := (mkF m 20 #[.val (Value.ref a), .val (Value.int x1), .val (Value.int x2), .val (Value.int (own_need x1 x2)), .unset] [(Value.int (own_need x1 x2))])) rfl (by rw [hml]; rfl) (argsL := [(Value.int (own_need x1 x2))]) (rest := []) (lenOf own_pd0 rfl) rfl (by show 2 * 0 + _ ≤ _; exact Nat.le_of_eq rfl) (hb hby own_d1_20) (fun _ _ => ⟨rfl, e3, (by decide : (0 : Nat) + 0 ≤ _), (by decide : (0 : Nat) + 0 ≤ _)⟩)
  dsimp only [Pt.U, Pt.locs, Pt.cells, Pt.slots] at X4 l4 y4 z4 st4 hQ4
  subst l4 y4 z4
  obtain ⟨rfl, e4, Nq4⟩ := hQ4
  have N4 := Fr.app N3 Nq4
  refine own_st st4 ?_
  show own_G p e below s _ _ _ (T4.setTop (mkF m 23 #[.val (Value.ref a), .val (Value.int x1), .val (Value.int x2), .val (Value.int (own_need x1 x2)), .unset] [(Value.int (own_hob (own_need x1 x2)))]))
  refine own_istore X4 hx hby own_d1_23 (l' := #[.val (Value.ref a), .val (Value.int x1), .val (Value.int x2), .val (Value.int (own_need x1 x2)), .val (Value.int (own_hob (own_need x1 x2)))]) rfl ?_
  show own_G p e below s _ _ _ (T4.setTop (mkF m 25 #[.val (Value.ref a), .val (Value.int x1), .val (Value.int x2), .val (Value.int (own_need x1 x2)), .val (Value.int (own_hob (own_need x1 x2)))] []))
  refine own_aloadN X4 hx hby own_d1_25 rfl rfl ?_
  show own_G p e below s _ _ _ (T4.setTop (mkF m 26 #[.val (Value.ref a), .val (Value.int x1), .val (Value.int x2), .val (Value.int (own_need x1 x2)), .val (Value.int (own_hob (own_need x1 x2)))] [(Value.ref a)]))
  refine own_iload X4 hx hby own_d1_26 rfl ?_
  show own_G p e below s _ _ _ (T4.setTop (mkF m 28 #[.val (Value.ref a), .val (Value.int x1), .val (Value.int x2), .val (Value.int (own_need x1 x2)), .val (Value.int (own_hob (own_need x1 x2)))] [(Value.int (own_hob (own_need x1 x2))), (Value.ref a)]))
  refine own_iloadN X4 hx hby own_d1_28 rfl ?_
  show own_G p e below s _ _ _ (T4.setTop (mkF m 29 #[.val (Value.ref a), .val (Value.int x1), .val (Value.int x2), .val (Value.int (own_need x1 x2)), .val (Value.int (own_hob (own_need x1 x2)))] [(Value.int (own_need x1 x2)), (Value.int (own_hob (own_need x1 x2))), (Value.ref a)]))
  refine own_icmp_ge X4 hx hby own_d1_29 (pc' := 39) (by decide) (by decide) (fun hb5 => ?_) (fun hb5 => ?_)
  · show own_G p e below s _ _ _ (T4.setTop (mkF m 39 #[.val (Value.ref a), .val (Value.int x1), .val (Value.int x2), .val (Value.int (own_need x1 x2)), .val (Value.int (own_hob (own_need x1 x2)))] [(Value.ref a)]))
    refine own_iload X4 hx hby own_d1_39 rfl ?_
    show own_G p e below s _ _ _ (T4.setTop (mkF m 41 #[.val (Value.ref a), .val (Value.int x1), .val (Value.int x2), .val (Value.int (own_need x1 x2)), .val (Value.int (own_hob (own_need x1 x2)))] [(Value.int (own_hob (own_need x1 x2))), (Value.ref a)]))
    obtain ⟨lm, hlm⟩ : ∃ z, z = own_lm (own_need x1 x2) := ⟨_, rfl⟩
    rw [show (own_hob (own_need x1 x2)) = lm from by rw [hlm]; exact (if_neg hb5).symm]
    have hok := own_lm_ok hnd1 hnd2
    rw [← hlm] at hok
    have hlp : own_pw lm.toInt.toNat := hok.1
    have hl1 := own_pw_pos hlp
    obtain ⟨T6, h6, X6, e6, W6, st6⟩ := putF X4 hx hZ hown (host := "") (Or.inl (own_w27 hw)) Via.refl e4 F_a_limit E_a (Or.inr ⟨(own_w28 hw), rfl, hnm⟩) (own_w3 hw) (ty := .int) (by decide) rfl rfl (g := (mkF m 41 #[.val (Value.ref a), .val (Value.int x1), .val (Value.int x2), .val (Value.int (own_need x1 x2)), .val (Value.int lm)] [(Value.int lm), (Value.ref a)])) rfl rfl (hb hby own_d1_41)
    have F7_a_vertices := Fld.other W6 F_a_vertices (Or.inr (slot_ne (C := "com/example/tuck/tuck/ListWindow") (Or.inl (own_w34 hw)) (Or.inr (own_w28 hw)) (by decide) (t := (.array .int)) (t' := .int) (by decide) (by decide)))
    have F7_a_lists := Fld.other W6 F_a_lists (Or.inr (slot_ne (C := "com/example/tuck/tuck/ListWindow") (Or.inl (own_w38 hw)) (Or.inr (own_w28 hw)) (by decide) (t := (.array (.array .int))) (t' := .int) (by decide) (by decide)))
    have F7_a_depths := Fld.other W6 F_a_depths (Or.inr (slot_ne (C := "com/example/tuck/tuck/ListWindow") (Or.inl (own_w40 hw)) (Or.inr (own_w28 hw)) (by decide) (t := (.array .int)) (t' := .int) (by decide) (by decide)))
    have E7_a := Exa.wr W6 E_a
    have O7 := Old.wr O0 W6 g_a
    have F6w := Fld.same W6 F_a_limit
    have K6 := Keep.wr (Keep.refl h0 [a]) W6 (Or.inl (List.mem_of_getElem? (i := 0) rfl))
    have N6 := Fr.snoc X6 N4 g_a
    refine own_st st6 ?_
    show own_G p e below s _ _ _ (T6.setTop (mkF m 44 #[.val (Value.ref a), .val (Value.int x1), .val (Value.int x2), .val (Value.int (own_need x1 x2)), .val (Value.int lm)] []))
    refine own_aloadN X6 hx hby own_d1_44 rfl rfl ?_
    show own_G p e below s _ _ _ (T6.setTop (mkF m 45 #[.val (Value.ref a), .val (Value.int x1), .val (Value.int x2), .val (Value.int (own_need x1 x2)), .val (Value.int lm)] [(Value.ref a)]))
    refine own_aloadN X6 hx hby own_d1_45 rfl rfl ?_
    show own_G p e below s _ _ _ (T6.setTop (mkF m 46 #[.val (Value.ref a), .val (Value.int x1), .val (Value.int x2), .val (Value.int (own_need x1 x2)), .val (Value.int lm)] [(Value.ref a), (Value.ref a)]))
    obtain ⟨T8, X8, e8, st8⟩ := getF X6 hx hZ hown (host := "") (Or.inl (own_w27 hw)) Via.refl e6 F6w (g := (mkF m 46 #[.val (Value.ref a), .val (Value.int x1), .val (Value.int x2), .val (Value.int (own_need x1 x2)), .val (Value.int lm)] [(Value.ref a), (Value.ref a)])) rfl rfl (hb hby own_d1_46)
    refine own_st st8 ?_
    show own_G p e below s _ _ _ (T8.setTop (mkF m 49 #[.val (Value.ref a), .val (Value.int x1), .val (Value.int x2), .val (Value.int (own_need x1 x2)), .val (Value.int lm)] [(Value.int lm), (Value.ref a)]))
    refine own_bipush X8 hx hby own_d1_49 ?_
    show own_G p e below s _ _ _ (T8.setTop (mkF m 51 #[.val (Value.ref a), .val (Value.int x1), .val (Value.int x2), .val (Value.int (own_need x1 x2)), .val (Value.int lm)] [(Value.int (64 : Int32)), (Value.int lm), (Value.ref a)]))
    obtain ⟨_, _, ⟨T9, L9, k9, n9⟩, -, X9, ⟨Lc9, hQ9, l9, y9, z9⟩, st9⟩ := Jvm.LawKit.callS X8 hx (y := (⟨"java/lang/Math", "min", "(II)I"⟩ : MethodName)) hown (mvT hZ (own_w29 hw)) (mvT hZ (own_w30 hw)) (mvT hZ (own_w13 hw)) (mvT hZ (own_w31 hw)) (by decide) (backOf (W := 1) (own_rmMinI l Z a0 hw [] lm (64 : Int32)  h6 n0 O7  ) hZ (own_w31 hw) (own_w13 hw) (by decide) (by decide)) (g := (mkF m 51 #[.val (Value.ref a), .val (Value.int x1), .val (Value.int x2), .val (Value.int (own_need x1 x2)), .val (Value.int lm)] [(Value.int (64 : Int32)), (Value.int lm), (Value.ref a)])) rfl (by rw [hml]; rfl) (argsL := [(Value.int lm), (Value.int (64 : Int32))]) (rest := [(Value.ref a)]) (lenOf own_pd3 rfl) rfl (by show 2 * 0 + _ ≤ _; exact Nat.le_of_eq rfl) (hb hby own_d1_51) (fun _ _ => ⟨rfl, e8, (by decide : (0 : Nat) + 0 ≤ _), (by decide : (0 : Nat) + 0 ≤ _)⟩)
    dsimp only [Pt.U, Pt.locs, Pt.cells, Pt.slots] at X9 l9 y9 z9 st9 hQ9
    subst l9 y9 z9
    obtain ⟨rfl, e9, Nq9⟩ := hQ9
    have N9 := Fr.app N6 Nq9
    refine own_st st9 ?_
    show own_G p e below s _ _ _ (T9.setTop (mkF m 54 #[.val (Value.ref a), .val (Value.int x1), .val (Value.int x2), .val (Value.int (own_need x1 x2)), .val (Value.int lm)] [(Value.int (own_minI lm (64 : Int32))), (Value.ref a)]))
    obtain ⟨n, hnn⟩ : ∃ n : Nat, n = (own_minI lm (64 : Int32)).toInt.toNat := ⟨_, rfl⟩
    have hmn : (own_minI lm (64 : Int32)).toInt = (n : Int) ∧ n ≤ 64 ∧ own_pw n ∧ (lm.toInt = (n : Int) ∨ (n = 64 ∧ lm.toInt = (128 : Nat))) := own_min64 hlp hnn
    obtain ⟨hmn1, hmn2, hpw, hnl⟩ := hmn
    have hN : n ≤ 128 := by omega
    obtain ⟨T10, h10, k10, X10, e10, E10, A10, st10⟩ := newP X9 hx hZ (aty := .int) (own_w32 hw) e9 (g := (mkF m 54 #[.val (Value.ref a), .val (Value.int x1), .val (Value.int x2), .val (Value.int (own_need x1 x2)), .val (Value.int lm)] [(Value.int (own_minI lm (64 : Int32))), (Value.ref a)])) rfl (hb hby own_d1_54) rfl (own_natc hmn1).1 (cap := 64) (by rw [(own_natc hmn1).2]; omega) (by decide) (by decide) (by decide)
    obtain ⟨ad10, g10⟩ : ∃ z, z = h6.size := ⟨_, rfl⟩
    rw [← g10] at A10 st10
    have ne10_a : a ≠ ad10 := by rw [g10]; exact Nat.ne_of_lt F6w.lt
    have F11_a_limit := Fld.ext E10 F6w
    have F11_a_vertices := Fld.ext E10 F7_a_vertices
    have F11_a_lists := Fld.ext E10 F7_a_lists
    have F11_a_depths := Fld.ext E10 F7_a_depths
    have E11_a := Exa.ext E10 E7_a
    have O11 := Old.ext O7 E10
    have g10n : n0 ≤ ad10 := by rw [g10]; exact O7.1 ▸ O7.2.1
    have z10n : h0.size ≤ ad10 := by rw [g10]; exact (K6).1
    have A10v : own_Ar Z h10 ad10 .int n (fun _ => (.int (0 : Int32))) := (by have q := own_Ar.new A10 (own_natc hmn1).1; rw [(own_natc hmn1).2] at q; exact q)
    have K10 := Keep.ext K6 E10
    refine own_st st10 ?_
    show own_G p e below s _ _ _ (T10.setTop (mkF m 56 #[.val (Value.ref a), .val (Value.int x1), .val (Value.int x2), .val (Value.int (own_need x1 x2)), .val (Value.int lm)] [(Value.ref ad10), (Value.ref a)]))
    obtain ⟨T12, h12, X12, e12, W12, st12⟩ := putF X10 hx hZ hown (host := "") (Or.inl (own_w33 hw)) Via.refl e10 F11_a_vertices E11_a (Or.inl (own_w34 hw)) (own_w3 hw) (ty := (.array .int)) (by decide) rfl rfl (g := (mkF m 56 #[.val (Value.ref a), .val (Value.int x1), .val (Value.int x2), .val (Value.int (own_need x1 x2)), .val (Value.int lm)] [(Value.ref ad10), (Value.ref a)])) rfl rfl (hb hby own_d1_56)
    have F13_a_limit := Fld.other W12 F11_a_limit (Or.inr (slot_ne (C := "com/example/tuck/tuck/ListWindow") (Or.inr (own_w28 hw)) (Or.inl (own_w34 hw)) (by decide) (t := .int) (t' := (.array .int)) (by decide) (by decide)))
    have F13_a_lists := Fld.other W12 F11_a_lists (Or.inr (slot_ne (C := "com/example/tuck/tuck/ListWindow") (Or.inl (own_w38 hw)) (Or.inl (own_w34 hw)) (by decide) (t := (.array (.array .int))) (t' := (.array .int)) (by decide) (by decide)))
    have F13_a_depths := Fld.other W12 F11_a_depths (Or.inr (slot_ne (C := "com/example/tuck/tuck/ListWindow") (Or.inl (own_w40 hw)) (Or.inl (own_w34 hw)) (by decide) (t := (.array .int)) (t' := (.array .int)) (by decide) (by decide)))
    have E13_a := Exa.wr W12 E11_a
    have A13_ad10 := own_Ar.other A10v W12 (Ne.symm ne10_a)
    have O13 := Old.wr O11 W12 g_a
    have F12w := Fld.same W12 F11_a_vertices
    have K12 := Keep.wr K10 W12 (Or.inl (List.mem_of_getElem? (i := 0) rfl))
    have N12 := Fr.snoc X12 N9 g_a
    refine own_st st12 ?_
    show own_G p e below s _ _ _ (T12.setTop (mkF m 59 #[.val (Value.ref a), .val (Value.int x1), .val (Value.int x2), .val (Value.int (own_need x1 x2)), .val (Value.int lm)] []))
    refine own_aloadN X12 hx hby own_d1_59 rfl rfl ?_
    show own_G p e below s _ _ _ (T12.setTop (mkF m 60 #[.val (Value.ref a), .val (Value.int x1), .val (Value.int x2), .val (Value.int (own_need x1 x2)), .val (Value.int lm)] [(Value.ref a)]))
    refine own_aloadN X12 hx hby own_d1_60 rfl rfl ?_
    show own_G p e below s _ _ _ (T12.setTop (mkF m 61 #[.val (Value.ref a), .val (Value.int x1), .val (Value.int x2), .val (Value.int (own_need x1 x2)), .val (Value.int lm)] [(Value.ref a), (Value.ref a)]))
    obtain ⟨T14, X14, e14, st14⟩ := getF X12 hx hZ hown (host := "") (Or.inl (own_w33 hw)) Via.refl e12 F12w (g := (mkF m 61 #[.val (Value.ref a), .val (Value.int x1), .val (Value.int x2), .val (Value.int (own_need x1 x2)), .val (Value.int lm)] [(Value.ref a), (Value.ref a)])) rfl rfl (hb hby own_d1_61)
    refine own_st st14 ?_
    show own_G p e below s _ _ _ (T14.setTop (mkF m 64 #[.val (Value.ref a), .val (Value.int x1), .val (Value.int x2), .val (Value.int (own_need x1 x2)), .val (Value.int lm)] [(Value.ref ad10), (Value.ref a)]))
    refine own_alen X14 hx hby hZ e14 A13_ad10 own_d1_64 ?_
    show own_G p e below s _ _ _ (T14.setTop (mkF m 65 #[.val (Value.ref a), .val (Value.int x1), .val (Value.int x2), .val (Value.int (own_need x1 x2)), .val (Value.int lm)] [(Value.int n.toInt32), (Value.ref a)]))
    obtain ⟨T15, h15, k15, X15, e15, E15, A15, st15⟩ := own_anewA X14 hx hZ hown (own_w35 hw) (own_w36 hw) e14 (g := (mkF m 65 #[.val (Value.ref a), .val (Value.int x1), .val (Value.int x2), .val (Value.int (own_need x1 x2)), .val (Value.int lm)] [(Value.int n.toInt32), (Value.ref a)])) rfl (hb hby own_d1_65) rfl (own_small hN).2.1 (cap := 64) (by rw [(own_small hN).2.2]; omega) (by decide) (by decide) (by decide)
    obtain ⟨ad15, g15⟩ : ∃ z, z = h12.size := ⟨_, rfl⟩
    rw [← g15] at A15 st15
    have ne15_a : a ≠ ad15 := by rw [g15]; exact Nat.ne_of_lt F13_a_limit.lt
    have ne15_ad10 : ad10 ≠ ad15 := by rw [g15]; exact Nat.ne_of_lt A13_ad10.lt
    have F16_a_limit := Fld.ext E15 F13_a_limit
    have F16_a_vertices := Fld.ext E15 F12w
    have F16_a_lists := Fld.ext E15 F13_a_lists
    have F16_a_depths := Fld.ext E15 F13_a_depths
    have E16_a := Exa.ext E15 E13_a
    have A16_ad10 := own_Ar.ext A13_ad10 E15
    have O16 := Old.ext O13 E15
    have g15n : n0 ≤ ad15 := by rw [g15]; exact O13.1 ▸ O13.2.1
    have z15n : h0.size ≤ ad15 := by rw [g15]; exact (K12).1
    have A15v : own_Ar Z h15 ad15 (.array .int) n (fun _ => Value.null) := (by have q := own_Ar.new A15 (own_small hN).2.1; rw [(own_small hN).2.2] at q; exact q)
    have K15 := Keep.ext K12 E15
    refine own_st st15 ?_
    show own_G p e below s _ _ _ (T15.setTop (mkF m 68 #[.val (Value.ref a), .val (Value.int x1), .val (Value.int x2), .val (Value.int (own_need x1 x2)), .val (Value.int lm)] [(Value.ref ad15), (Value.ref a)]))
    obtain ⟨T17, h17, X17, e17, W17, st17⟩ := putF X15 hx hZ hown (host := "") (Or.inl (own_w37 hw)) Via.refl e15 F16_a_lists E16_a (Or.inl (own_w38 hw)) (own_w3 hw) (ty := (.array (.array .int))) (by decide) rfl rfl (g := (mkF m 68 #[.val (Value.ref a), .val (Value.int x1), .val (Value.int x2), .val (Value.int (own_need x1 x2)), .val (Value.int lm)] [(Value.ref ad15), (Value.ref a)])) rfl rfl (hb hby own_d1_68)
    have F18_a_limit := Fld.other W17 F16_a_limit (Or.inr (slot_ne (C := "com/example/tuck/tuck/ListWindow") (Or.inr (own_w28 hw)) (Or.inl (own_w38 hw)) (by decide) (t := .int) (t' := (.array (.array .int))) (by decide) (by decide)))
    have F18_a_vertices := Fld.other W17 F16_a_vertices (Or.inr (slot_ne (C := "com/example/tuck/tuck/ListWindow") (Or.inl (own_w34 hw)) (Or.inl (own_w38 hw)) (by decide) (t := (.array .int)) (t' := (.array (.array .int))) (by decide) (by decide)))
    have F18_a_depths := Fld.other W17 F16_a_depths (Or.inr (slot_ne (C := "com/example/tuck/tuck/ListWindow") (Or.inl (own_w40 hw)) (Or.inl (own_w38 hw)) (by decide) (t := (.array .int)) (t' := (.array (.array .int))) (by decide) (by decide)))
    have E18_a := Exa.wr W17 E16_a
    have A18_ad10 := own_Ar.other A16_ad10 W17 (Ne.symm ne10_a)
    have A18_ad15 := own_Ar.other A15v W17 (Ne.symm ne15_a)
    have O18 := Old.wr O16 W17 g_a
    have F17w := Fld.same W17 F16_a_lists
    have K17 := Keep.wr K15 W17 (Or.inl (List.mem_of_getElem? (i := 0) rfl))
    have N17 := Fr.snoc X17 N12 g_a
    refine own_st st17 ?_
    show own_G p e below s _ _ _ (T17.setTop (mkF m 71 #[.val (Value.ref a), .val (Value.int x1), .val (Value.int x2), .val (Value.int (own_need x1 x2)), .val (Value.int lm)] []))
    refine own_aloadN X17 hx hby own_d1_71 rfl rfl ?_
    show own_G p e below s _ _ _ (T17.setTop (mkF m 72 #[.val (Value.ref a), .val (Value.int x1), .val (Value.int x2), .val (Value.int (own_need x1 x2)), .val (Value.int lm)] [(Value.ref a)]))
    refine own_aloadN X17 hx hby own_d1_72 rfl rfl ?_
    show own_G p e below s _ _ _ (T17.setTop (mkF m 73 #[.val (Value.ref a), .val (Value.int x1), .val (Value.int x2), .val (Value.int (own_need x1 x2)), .val (Value.int lm)] [(Value.ref a), (Value.ref a)]))
    obtain ⟨T19, X19, e19, st19⟩ := getF X17 hx hZ hown (host := "") (Or.inl (own_w33 hw)) Via.refl e17 F18_a_vertices (g := (mkF m 73 #[.val (Value.ref a), .val (Value.int x1), .val (Value.int x2), .val (Value.int (own_need x1 x2)), .val (Value.int lm)] [(Value.ref a), (Value.ref a)])) rfl rfl (hb hby own_d1_73)
    refine own_st st19 ?_
    show own_G p e below s _ _ _ (T19.setTop (mkF m 76 #[.val (Value.ref a), .val (Value.int x1), .val (Value.int x2), .val (Value.int (own_need x1 x2)), .val (Value.int lm)] [(Value.ref ad10), (Value.ref a)]))
    refine own_alen X19 hx hby hZ e19 A18_ad10 own_d1_76 ?_
    show own_G p e below s _ _ _ (T19.setTop (mkF m 77 #[.val (Value.ref a), .val (Value.int x1), .val (Value.int x2), .val (Value.int (own_need x1 x2)), .val (Value.int lm)] [(Value.int n.toInt32), (Value.ref a)]))
    obtain ⟨T20, h20, k20, X20, e20, E20, A20, st20⟩ := newP X19 hx hZ (aty := .int) (own_w32 hw) e19 (g := (mkF m 77 #[.val (Value.ref a), .val (Value.int x1), .val (Value.int x2), .val (Value.int (own_need x1 x2)), .val (Value.int lm)] [(Value.int n.toInt32), (Value.ref a)])) rfl (hb hby own_d1_77) rfl (own_small hN).2.1 (cap := 64) (by rw [(own_small hN).2.2]; omega) (by decide) (by decide) (by decide)
    obtain ⟨ad20, g20⟩ : ∃ z, z = h17.size := ⟨_, rfl⟩
    rw [← g20] at A20 st20
    have ne20_a : a ≠ ad20 := by rw [g20]; exact Nat.ne_of_lt F18_a_limit.lt
    have ne20_ad10 : ad10 ≠ ad20 := by rw [g20]; exact Nat.ne_of_lt A18_ad10.lt
    have ne20_ad15 : ad15 ≠ ad20 := by rw [g20]; exact Nat.ne_of_lt A18_ad15.lt
    have F21_a_limit := Fld.ext E20 F18_a_limit
    have F21_a_vertices := Fld.ext E20 F18_a_vertices
    have F21_a_lists := Fld.ext E20 F17w
    have F21_a_depths := Fld.ext E20 F18_a_depths
    have E21_a := Exa.ext E20 E18_a
    have A21_ad10 := own_Ar.ext A18_ad10 E20
    have A21_ad15 := own_Ar.ext A18_ad15 E20
    have O21 := Old.ext O18 E20
    have g20n : n0 ≤ ad20 := by rw [g20]; exact O18.1 ▸ O18.2.1
    have z20n : h0.size ≤ ad20 := by rw [g20]; exact (K17).1
    have A20v : own_Ar Z h20 ad20 .int n (fun _ => (.int (0 : Int32))) := (by have q := own_Ar.new A20 (own_small hN).2.1; rw [(own_small hN).2.2] at q; exact q)
    have K20 := Keep.ext K17 E20
    refine own_st st20 ?_
    show own_G p e below s _ _ _ (T20.setTop (mkF m 79 #[.val (Value.ref a), .val (Value.int x1), .val (Value.int x2), .val (Value.int (own_need x1 x2)), .val (Value.int lm)] [(Value.ref ad20), (Value.ref a)]))
    obtain ⟨T22, h22, X22, e22, W22, st22⟩ := putF X20 hx hZ hown (host := "") (Or.inl (own_w39 hw)) Via.refl e20 F21_a_depths E21_a (Or.inl (own_w40 hw)) (own_w3 hw) (ty := (.array .int)) (by decide) rfl rfl (g := (mkF m 79 #[.val (Value.ref a), .val (Value.int x1), .val (Value.int x2), .val (Value.int (own_need x1 x2)), .val (Value.int lm)] [(Value.ref ad20), (Value.ref a)])) rfl rfl (hb hby own_d1_79)
    have F23_a_limit := Fld.other W22 F21_a_limit (Or.inr (slot_ne (C := "com/example/tuck/tuck/ListWindow") (Or.inr (own_w28 hw)) (Or.inl (own_w40 hw)) (by decide) (t := .int) (t' := (.array .int)) (by decide) (by decide)))
    have F23_a_vertices := Fld.other W22 F21_a_vertices (Or.inr (slot_ne (C := "com/example/tuck/tuck/ListWindow") (Or.inl (own_w34 hw)) (Or.inl (own_w40 hw)) (by decide) (t := (.array .int)) (t' := (.array .int)) (by decide) (by decide)))
    have F23_a_lists := Fld.other W22 F21_a_lists (Or.inr (slot_ne (C := "com/example/tuck/tuck/ListWindow") (Or.inl (own_w38 hw)) (Or.inl (own_w40 hw)) (by decide) (t := (.array (.array .int))) (t' := (.array .int)) (by decide) (by decide)))
    have E23_a := Exa.wr W22 E21_a
    have A23_ad10 := own_Ar.other A21_ad10 W22 (Ne.symm ne10_a)
    have A23_ad15 := own_Ar.other A21_ad15 W22 (Ne.symm ne15_a)
    have A23_ad20 := own_Ar.other A20v W22 (Ne.symm ne20_a)
    have O23 := Old.wr O21 W22 g_a
    have F22w := Fld.same W22 F21_a_depths
    have K22 := Keep.wr K20 W22 (Or.inl (List.mem_of_getElem? (i := 0) rfl))
    have N22 := Fr.snoc X22 N17 g_a
    refine own_st st22 ?_
    show own_G p e below s _ _ _ (T22.setTop (mkF m 82 #[.val (Value.ref a), .val (Value.int x1), .val (Value.int x2), .val (Value.int (own_need x1 x2)), .val (Value.int lm)] []))
    have Az_vertices : own_Ar Z h22 ad10 .int n (fun j => Value.int ((fun _ => (0 : Int32)) j)) := A23_ad10
    have Az_depths : own_Ar Z h22 ad20 .int n (fun j => Value.int ((fun _ => (0 : Int32)) j)) := A23_ad20
    refine own_aloadN X22 hx hby own_d1_82 rfl rfl ?_
    show own_G p e below s _ _ _ (T22.setTop (mkF m 83 #[.val (Value.ref a), .val (Value.int x1), .val (Value.int x2), .val (Value.int (own_need x1 x2)), .val (Value.int lm)] [(Value.ref a)]))
    obtain ⟨T24, X24, e24, st24⟩ := getF X22 hx hZ hown (host := "") (Or.inl (own_w33 hw)) Via.refl e22 F23_a_vertices (g := (mkF m 83 #[.val (Value.ref a), .val (Value.int x1), .val (Value.int x2), .val (Value.int (own_need x1 x2)), .val (Value.int lm)] [(Value.ref a)])) rfl rfl (hb hby own_d1_83)
    refine own_st st24 ?_
    show own_G p e below s _ _ _ (T24.setTop (mkF m 86 #[.val (Value.ref a), .val (Value.int x1), .val (Value.int x2), .val (Value.int (own_need x1 x2)), .val (Value.int lm)] [(Value.ref ad10)]))
    refine own_iconst X24 hx hby own_d1_86 ?_
    show own_G p e below s _ _ _ (T24.setTop (mkF m 87 #[.val (Value.ref a), .val (Value.int x1), .val (Value.int x2), .val (Value.int (own_need x1 x2)), .val (Value.int lm)] [(Value.int (-1 : Int32)), (Value.ref ad10)]))
    obtain ⟨_, _, ⟨T25, L25, k25, n25⟩, -, X25, ⟨Lc25, hQ25, l25, y25, z25⟩, st25⟩ := Jvm.LawKit.callS X24 hx (y := (⟨"java/util/Arrays", "fill", "([II)V"⟩ : MethodName)) hown (mvT hZ (own_w41 hw)) (mvT hZ (own_w42 hw)) (mvT hZ (own_w43 hw)) (mvT hZ (own_w44 hw)) (by decide) (backOf (W := 0) (own_rmF l Z a0 hw [] ad10 (-1 : Int32) n (fun _ => (0 : Int32)) h22 n0 O23 Az_vertices g10n hN) hZ (own_w44 hw) (own_w43 hw) (by decide) (by decide)) (g := (mkF m 87 #[.val (Value.ref a), .val (Value.int x1), .val (Value.int x2), .val (Value.int (own_need x1 x2)), .val (Value.int lm)] [(Value.int (-1 : Int32)), (Value.ref ad10)])) rfl (by rw [hml]; rfl) (argsL := [(Value.ref ad10), (Value.int (-1 : Int32))]) (rest := []) (lenOf own_pd1 rfl) rfl (by show 2 * 0 + _ ≤ _; exact Nat.le_of_eq rfl) (hb hby own_d1_87) (fun _ _ => ⟨rfl, e24, (by decide : (3 : Nat) + 0 ≤ _), (by decide : (192 : Nat) + 0 ≤ _)⟩)
    dsimp only [Pt.U, Pt.locs, Pt.cells, Pt.slots] at X25 l25 y25 z25 st25 hQ25
    subst l25 y25 z25
    obtain ⟨rfl, Nq25, Kq25, Aq25⟩ := hQ25
    have N25 := Fr.app N22 Nq25
    have F26_a_limit := Fld.keep F23_a_limit Kq25 (ninS ne10_a nin0)
    have F26_a_vertices := Fld.keep F23_a_vertices Kq25 (ninS ne10_a nin0)
    have F26_a_lists := Fld.keep F23_a_lists Kq25 (ninS ne10_a nin0)
    have F26_a_depths := Fld.keep F22w Kq25 (ninS ne10_a nin0)
    have E26_a := Exa.keep E23_a Kq25
    have A26_ad15 := own_Ar.keep A23_ad15 Kq25 (ninS (Ne.symm ne15_ad10) nin0)
    have A26_ad20 := own_Ar.keep Az_depths Kq25 (ninS (Ne.symm ne20_ad10) nin0)
    have O26 := Old.keep O23 Kq25 (allS g10n all0)
    have K25 := Keep.trans K22 Kq25 (allS (Or.inr z10n) all0)
    refine own_st st25 ?_
    show own_G p e below s _ _ _ (T25.setTop (mkF m 90 #[.val (Value.ref a), .val (Value.int x1), .val (Value.int x2), .val (Value.int (own_need x1 x2)), .val (Value.int lm)] []))
    refine own_ret0 X25 hx hby hlk Bd.returns own_d1_90 (by decide) (by decide) ?_
    show own_rmI_Q Z a x1 x2 h0 n0 _ T25.heap _
    skip
    subst hlm
    exact ⟨rfl, N25, K25, ad10, ad15, ad20, n, z10n, z15n, z20n, hpw, hnl, E26_a, F26_a_limit, F26_a_vertices, F26_a_lists, F26_a_depths, Aq25, A26_ad15, A26_ad20, g10n, g15n, g20n, ne10_a, ne15_a, ne20_a, ne15_ad10, ne20_ad10, ne20_ad15⟩
  · show own_G p e below s _ _ _ (T4.setTop (mkF m 32 #[.val (Value.ref a), .val (Value.int x1), .val (Value.int x2), .val (Value.int (own_need x1 x2)), .val (Value.int (own_hob (own_need x1 x2)))] [(Value.ref a)]))
    refine own_iconst X4 hx hby own_d1_32 ?_
    show own_G p e below s _ _ _ (T4.setTop (mkF m 33 #[.val (Value.ref a), .val (Value.int x1), .val (Value.int x2), .val (Value.int (own_need x1 x2)), .val (Value.int (own_hob (own_need x1 x2)))] [(Value.int (2 : Int32)), (Value.ref a)]))
    refine own_iload X4 hx hby own_d1_33 rfl ?_
    show own_G p e below s _ _ _ (T4.setTop (mkF m 35 #[.val (Value.ref a), .val (Value.int x1), .val (Value.int x2), .val (Value.int (own_need x1 x2)), .val (Value.int (own_hob (own_need x1 x2)))] [(Value.int (own_hob (own_need x1 x2))), (Value.int (2 : Int32)), (Value.ref a)]))
    refine own_imul X4 hx hby own_d1_35 ?_
    show own_G p e below s _ _ _ (T4.setTop (mkF m 36 #[.val (Value.ref a), .val (Value.int x1), .val (Value.int x2), .val (Value.int (own_need x1 x2)), .val (Value.int (own_hob (own_need x1 x2)))] [(Value.int ((2 : Int32) * (own_hob (own_need x1 x2)))), (Value.ref a)]))
    refine own_goto X4 hx hby own_d1_36 (pc' := 41) (by decide) (by decide) ?_
    show own_G p e below s _ _ _ (T4.setTop (mkF m 41 #[.val (Value.ref a), .val (Value.int x1), .val (Value.int x2), .val (Value.int (own_need x1 x2)), .val (Value.int (own_hob (own_need x1 x2)))] [(Value.int ((2 : Int32) * (own_hob (own_need x1 x2)))), (Value.ref a)]))
    obtain ⟨lm, hlm⟩ : ∃ z, z = own_lm (own_need x1 x2) := ⟨_, rfl⟩
    rw [show ((2 : Int32) * (own_hob (own_need x1 x2))) = lm from by rw [hlm]; exact (if_pos hb5).symm]
    have hok := own_lm_ok hnd1 hnd2
    rw [← hlm] at hok
    have hlp : own_pw lm.toInt.toNat := hok.1
    have hl1 := own_pw_pos hlp
    obtain ⟨T27, h27, X27, e27, W27, st27⟩ := putF X4 hx hZ hown (host := "") (Or.inl (own_w27 hw)) Via.refl e4 F_a_limit E_a (Or.inr ⟨(own_w28 hw), rfl, hnm⟩) (own_w3 hw) (ty := .int) (by decide) rfl rfl (g := (mkF m 41 #[.val (Value.ref a), .val (Value.int x1), .val (Value.int x2), .val (Value.int (own_need x1 x2)), .val (Value.int (own_hob (own_need x1 x2)))] [(Value.int lm), (Value.ref a)])) rfl rfl (hb hby own_d1_41)
    have F28_a_vertices := Fld.other W27 F_a_vertices (Or.inr (slot_ne (C := "com/example/tuck/tuck/ListWindow") (Or.inl (own_w34 hw)) (Or.inr (own_w28 hw)) (by decide) (t := (.array .int)) (t' := .int) (by decide) (by decide)))
    have F28_a_lists := Fld.other W27 F_a_lists (Or.inr (slot_ne (C := "com/example/tuck/tuck/ListWindow") (Or.inl (own_w38 hw)) (Or.inr (own_w28 hw)) (by decide) (t := (.array (.array .int))) (t' := .int) (by decide) (by decide)))
    have F28_a_depths := Fld.other W27 F_a_depths (Or.inr (slot_ne (C := "com/example/tuck/tuck/ListWindow") (Or.inl (own_w40 hw)) (Or.inr (own_w28 hw)) (by decide) (t := (.array .int)) (t' := .int) (by decide) (by decide)))
    have E28_a := Exa.wr W27 E_a
    have O28 := Old.wr O0 W27 g_a
    have F27w := Fld.same W27 F_a_limit
    have K27 := Keep.wr (Keep.refl h0 [a]) W27 (Or.inl (List.mem_of_getElem? (i := 0) rfl))
    have N27 := Fr.snoc X27 N4 g_a
    refine own_st st27 ?_
    show own_G p e below s _ _ _ (T27.setTop (mkF m 44 #[.val (Value.ref a), .val (Value.int x1), .val (Value.int x2), .val (Value.int (own_need x1 x2)), .val (Value.int (own_hob (own_need x1 x2)))] []))
    refine own_aloadN X27 hx hby own_d1_44 rfl rfl ?_
    show own_G p e below s _ _ _ (T27.setTop (mkF m 45 #[.val (Value.ref a), .val (Value.int x1), .val (Value.int x2), .val (Value.int (own_need x1 x2)), .val (Value.int (own_hob (own_need x1 x2)))] [(Value.ref a)]))
    refine own_aloadN X27 hx hby own_d1_45 rfl rfl ?_
    show own_G p e below s _ _ _ (T27.setTop (mkF m 46 #[.val (Value.ref a), .val (Value.int x1), .val (Value.int x2), .val (Value.int (own_need x1 x2)), .val (Value.int (own_hob (own_need x1 x2)))] [(Value.ref a), (Value.ref a)]))
    obtain ⟨T29, X29, e29, st29⟩ := getF X27 hx hZ hown (host := "") (Or.inl (own_w27 hw)) Via.refl e27 F27w (g := (mkF m 46 #[.val (Value.ref a), .val (Value.int x1), .val (Value.int x2), .val (Value.int (own_need x1 x2)), .val (Value.int (own_hob (own_need x1 x2)))] [(Value.ref a), (Value.ref a)])) rfl rfl (hb hby own_d1_46)
    refine own_st st29 ?_
    show own_G p e below s _ _ _ (T29.setTop (mkF m 49 #[.val (Value.ref a), .val (Value.int x1), .val (Value.int x2), .val (Value.int (own_need x1 x2)), .val (Value.int (own_hob (own_need x1 x2)))] [(Value.int lm), (Value.ref a)]))
    refine own_bipush X29 hx hby own_d1_49 ?_
    show own_G p e below s _ _ _ (T29.setTop (mkF m 51 #[.val (Value.ref a), .val (Value.int x1), .val (Value.int x2), .val (Value.int (own_need x1 x2)), .val (Value.int (own_hob (own_need x1 x2)))] [(Value.int (64 : Int32)), (Value.int lm), (Value.ref a)]))
    obtain ⟨_, _, ⟨T30, L30, k30, n30⟩, -, X30, ⟨Lc30, hQ30, l30, y30, z30⟩, st30⟩ := Jvm.LawKit.callS X29 hx (y := (⟨"java/lang/Math", "min", "(II)I"⟩ : MethodName)) hown (mvT hZ (own_w29 hw)) (mvT hZ (own_w30 hw)) (mvT hZ (own_w13 hw)) (mvT hZ (own_w31 hw)) (by decide) (backOf (W := 1) (own_rmMinI l Z a0 hw [] lm (64 : Int32)  h27 n0 O28  ) hZ (own_w31 hw) (own_w13 hw) (by decide) (by decide)) (g := (mkF m 51 #[.val (Value.ref a), .val (Value.int x1), .val (Value.int x2), .val (Value.int (own_need x1 x2)), .val (Value.int (own_hob (own_need x1 x2)))] [(Value.int (64 : Int32)), (Value.int lm), (Value.ref a)])) rfl (by rw [hml]; rfl) (argsL := [(Value.int lm), (Value.int (64 : Int32))]) (rest := [(Value.ref a)]) (lenOf own_pd3 rfl) rfl (by show 2 * 0 + _ ≤ _; exact Nat.le_of_eq rfl) (hb hby own_d1_51) (fun _ _ => ⟨rfl, e29, (by decide : (0 : Nat) + 0 ≤ _), (by decide : (0 : Nat) + 0 ≤ _)⟩)
    dsimp only [Pt.U, Pt.locs, Pt.cells, Pt.slots] at X30 l30 y30 z30 st30 hQ30
    subst l30 y30 z30
    obtain ⟨rfl, e30, Nq30⟩ := hQ30
    have N30 := Fr.app N27 Nq30
    refine own_st st30 ?_
    show own_G p e below s _ _ _ (T30.setTop (mkF m 54 #[.val (Value.ref a), .val (Value.int x1), .val (Value.int x2), .val (Value.int (own_need x1 x2)), .val (Value.int (own_hob (own_need x1 x2)))] [(Value.int (own_minI lm (64 : Int32))), (Value.ref a)]))
    obtain ⟨n, hnn⟩ : ∃ n : Nat, n = (own_minI lm (64 : Int32)).toInt.toNat := ⟨_, rfl⟩
    have hmn : (own_minI lm (64 : Int32)).toInt = (n : Int) ∧ n ≤ 64 ∧ own_pw n ∧ (lm.toInt = (n : Int) ∨ (n = 64 ∧ lm.toInt = (128 : Nat))) := own_min64 hlp hnn
    obtain ⟨hmn1, hmn2, hpw, hnl⟩ := hmn
    have hN : n ≤ 128 := by omega
    obtain ⟨T31, h31, k31, X31, e31, E31, A31, st31⟩ := newP X30 hx hZ (aty := .int) (own_w32 hw) e30 (g := (mkF m 54 #[.val (Value.ref a), .val (Value.int x1), .val (Value.int x2), .val (Value.int (own_need x1 x2)), .val (Value.int (own_hob (own_need x1 x2)))] [(Value.int (own_minI lm (64 : Int32))), (Value.ref a)])) rfl (hb hby own_d1_54) rfl (own_natc hmn1).1 (cap := 64) (by rw [(own_natc hmn1).2]; omega) (by decide) (by decide) (by decide)
    obtain ⟨ad31, g31⟩ : ∃ z, z = h27.size := ⟨_, rfl⟩
    rw [← g31] at A31 st31
    have ne31_a : a ≠ ad31 := by rw [g31]; exact Nat.ne_of_lt F27w.lt
    have F32_a_limit := Fld.ext E31 F27w
    have F32_a_vertices := Fld.ext E31 F28_a_vertices
    have F32_a_lists := Fld.ext E31 F28_a_lists
    have F32_a_depths := Fld.ext E31 F28_a_depths
    have E32_a := Exa.ext E31 E28_a
    have O32 := Old.ext O28 E31
    have g31n : n0 ≤ ad31 := by rw [g31]; exact O28.1 ▸ O28.2.1
    have z31n : h0.size ≤ ad31 := by rw [g31]; exact (K27).1
    have A31v : own_Ar Z h31 ad31 .int n (fun _ => (.int (0 : Int32))) := (by have q := own_Ar.new A31 (own_natc hmn1).1; rw [(own_natc hmn1).2] at q; exact q)
    have K31 := Keep.ext K27 E31
    refine own_st st31 ?_
    show own_G p e below s _ _ _ (T31.setTop (mkF m 56 #[.val (Value.ref a), .val (Value.int x1), .val (Value.int x2), .val (Value.int (own_need x1 x2)), .val (Value.int (own_hob (own_need x1 x2)))] [(Value.ref ad31), (Value.ref a)]))
    obtain ⟨T33, h33, X33, e33, W33, st33⟩ := putF X31 hx hZ hown (host := "") (Or.inl (own_w33 hw)) Via.refl e31 F32_a_vertices E32_a (Or.inl (own_w34 hw)) (own_w3 hw) (ty := (.array .int)) (by decide) rfl rfl (g := (mkF m 56 #[.val (Value.ref a), .val (Value.int x1), .val (Value.int x2), .val (Value.int (own_need x1 x2)), .val (Value.int (own_hob (own_need x1 x2)))] [(Value.ref ad31), (Value.ref a)])) rfl rfl (hb hby own_d1_56)
    have F34_a_limit := Fld.other W33 F32_a_limit (Or.inr (slot_ne (C := "com/example/tuck/tuck/ListWindow") (Or.inr (own_w28 hw)) (Or.inl (own_w34 hw)) (by decide) (t := .int) (t' := (.array .int)) (by decide) (by decide)))
    have F34_a_lists := Fld.other W33 F32_a_lists (Or.inr (slot_ne (C := "com/example/tuck/tuck/ListWindow") (Or.inl (own_w38 hw)) (Or.inl (own_w34 hw)) (by decide) (t := (.array (.array .int))) (t' := (.array .int)) (by decide) (by decide)))
    have F34_a_depths := Fld.other W33 F32_a_depths (Or.inr (slot_ne (C := "com/example/tuck/tuck/ListWindow") (Or.inl (own_w40 hw)) (Or.inl (own_w34 hw)) (by decide) (t := (.array .int)) (t' := (.array .int)) (by decide) (by decide)))
    have E34_a := Exa.wr W33 E32_a
    have A34_ad31 := own_Ar.other A31v W33 (Ne.symm ne31_a)
    have O34 := Old.wr O32 W33 g_a
    have F33w := Fld.same W33 F32_a_vertices
    have K33 := Keep.wr K31 W33 (Or.inl (List.mem_of_getElem? (i := 0) rfl))
    have N33 := Fr.snoc X33 N30 g_a
    refine own_st st33 ?_
    show own_G p e below s _ _ _ (T33.setTop (mkF m 59 #[.val (Value.ref a), .val (Value.int x1), .val (Value.int x2), .val (Value.int (own_need x1 x2)), .val (Value.int (own_hob (own_need x1 x2)))] []))
    refine own_aloadN X33 hx hby own_d1_59 rfl rfl ?_
    show own_G p e below s _ _ _ (T33.setTop (mkF m 60 #[.val (Value.ref a), .val (Value.int x1), .val (Value.int x2), .val (Value.int (own_need x1 x2)), .val (Value.int (own_hob (own_need x1 x2)))] [(Value.ref a)]))
    refine own_aloadN X33 hx hby own_d1_60 rfl rfl ?_
    show own_G p e below s _ _ _ (T33.setTop (mkF m 61 #[.val (Value.ref a), .val (Value.int x1), .val (Value.int x2), .val (Value.int (own_need x1 x2)), .val (Value.int (own_hob (own_need x1 x2)))] [(Value.ref a), (Value.ref a)]))
    obtain ⟨T35, X35, e35, st35⟩ := getF X33 hx hZ hown (host := "") (Or.inl (own_w33 hw)) Via.refl e33 F33w (g := (mkF m 61 #[.val (Value.ref a), .val (Value.int x1), .val (Value.int x2), .val (Value.int (own_need x1 x2)), .val (Value.int (own_hob (own_need x1 x2)))] [(Value.ref a), (Value.ref a)])) rfl rfl (hb hby own_d1_61)
    refine own_st st35 ?_
    show own_G p e below s _ _ _ (T35.setTop (mkF m 64 #[.val (Value.ref a), .val (Value.int x1), .val (Value.int x2), .val (Value.int (own_need x1 x2)), .val (Value.int (own_hob (own_need x1 x2)))] [(Value.ref ad31), (Value.ref a)]))
    refine own_alen X35 hx hby hZ e35 A34_ad31 own_d1_64 ?_
    show own_G p e below s _ _ _ (T35.setTop (mkF m 65 #[.val (Value.ref a), .val (Value.int x1), .val (Value.int x2), .val (Value.int (own_need x1 x2)), .val (Value.int (own_hob (own_need x1 x2)))] [(Value.int n.toInt32), (Value.ref a)]))
    obtain ⟨T36, h36, k36, X36, e36, E36, A36, st36⟩ := own_anewA X35 hx hZ hown (own_w35 hw) (own_w36 hw) e35 (g := (mkF m 65 #[.val (Value.ref a), .val (Value.int x1), .val (Value.int x2), .val (Value.int (own_need x1 x2)), .val (Value.int (own_hob (own_need x1 x2)))] [(Value.int n.toInt32), (Value.ref a)])) rfl (hb hby own_d1_65) rfl (own_small hN).2.1 (cap := 64) (by rw [(own_small hN).2.2]; omega) (by decide) (by decide) (by decide)
    obtain ⟨ad36, g36⟩ : ∃ z, z = h33.size := ⟨_, rfl⟩
    rw [← g36] at A36 st36
    have ne36_ad31 : ad31 ≠ ad36 := by rw [g36]; exact Nat.ne_of_lt A34_ad31.lt
    have ne36_a : a ≠ ad36 := by rw [g36]; exact Nat.ne_of_lt F34_a_limit.lt
    have F37_a_limit := Fld.ext E36 F34_a_limit
    have F37_a_vertices := Fld.ext E36 F33w
    have F37_a_lists := Fld.ext E36 F34_a_lists
    have F37_a_depths := Fld.ext E36 F34_a_depths
    have E37_a := Exa.ext E36 E34_a
    have A37_ad31 := own_Ar.ext A34_ad31 E36
    have O37 := Old.ext O34 E36
    have g36n : n0 ≤ ad36 := by rw [g36]; exact O34.1 ▸ O34.2.1
    have z36n : h0.size ≤ ad36 := by rw [g36]; exact (K33).1
    have A36v : own_Ar Z h36 ad36 (.array .int) n (fun _ => Value.null) := (by have q := own_Ar.new A36 (own_small hN).2.1; rw [(own_small hN).2.2] at q; exact q)
    have K36 := Keep.ext K33 E36
    refine own_st st36 ?_
    show own_G p e below s _ _ _ (T36.setTop (mkF m 68 #[.val (Value.ref a), .val (Value.int x1), .val (Value.int x2), .val (Value.int (own_need x1 x2)), .val (Value.int (own_hob (own_need x1 x2)))] [(Value.ref ad36), (Value.ref a)]))
    obtain ⟨T38, h38, X38, e38, W38, st38⟩ := putF X36 hx hZ hown (host := "") (Or.inl (own_w37 hw)) Via.refl e36 F37_a_lists E37_a (Or.inl (own_w38 hw)) (own_w3 hw) (ty := (.array (.array .int))) (by decide) rfl rfl (g := (mkF m 68 #[.val (Value.ref a), .val (Value.int x1), .val (Value.int x2), .val (Value.int (own_need x1 x2)), .val (Value.int (own_hob (own_need x1 x2)))] [(Value.ref ad36), (Value.ref a)])) rfl rfl (hb hby own_d1_68)
    have F39_a_limit := Fld.other W38 F37_a_limit (Or.inr (slot_ne (C := "com/example/tuck/tuck/ListWindow") (Or.inr (own_w28 hw)) (Or.inl (own_w38 hw)) (by decide) (t := .int) (t' := (.array (.array .int))) (by decide) (by decide)))
    have F39_a_vertices := Fld.other W38 F37_a_vertices (Or.inr (slot_ne (C := "com/example/tuck/tuck/ListWindow") (Or.inl (own_w34 hw)) (Or.inl (own_w38 hw)) (by decide) (t := (.array .int)) (t' := (.array (.array .int))) (by decide) (by decide)))
    have F39_a_depths := Fld.other W38 F37_a_depths (Or.inr (slot_ne (C := "com/example/tuck/tuck/ListWindow") (Or.inl (own_w40 hw)) (Or.inl (own_w38 hw)) (by decide) (t := (.array .int)) (t' := (.array (.array .int))) (by decide) (by decide)))
    have E39_a := Exa.wr W38 E37_a
    have A39_ad31 := own_Ar.other A37_ad31 W38 (Ne.symm ne31_a)
    have A39_ad36 := own_Ar.other A36v W38 (Ne.symm ne36_a)
    have O39 := Old.wr O37 W38 g_a
    have F38w := Fld.same W38 F37_a_lists
    have K38 := Keep.wr K36 W38 (Or.inl (List.mem_of_getElem? (i := 0) rfl))
    have N38 := Fr.snoc X38 N33 g_a
    refine own_st st38 ?_
    show own_G p e below s _ _ _ (T38.setTop (mkF m 71 #[.val (Value.ref a), .val (Value.int x1), .val (Value.int x2), .val (Value.int (own_need x1 x2)), .val (Value.int (own_hob (own_need x1 x2)))] []))
    refine own_aloadN X38 hx hby own_d1_71 rfl rfl ?_
    show own_G p e below s _ _ _ (T38.setTop (mkF m 72 #[.val (Value.ref a), .val (Value.int x1), .val (Value.int x2), .val (Value.int (own_need x1 x2)), .val (Value.int (own_hob (own_need x1 x2)))] [(Value.ref a)]))
    refine own_aloadN X38 hx hby own_d1_72 rfl rfl ?_
    show own_G p e below s _ _ _ (T38.setTop (mkF m 73 #[.val (Value.ref a), .val (Value.int x1), .val (Value.int x2), .val (Value.int (own_need x1 x2)), .val (Value.int (own_hob (own_need x1 x2)))] [(Value.ref a), (Value.ref a)]))
    obtain ⟨T40, X40, e40, st40⟩ := getF X38 hx hZ hown (host := "") (Or.inl (own_w33 hw)) Via.refl e38 F39_a_vertices (g := (mkF m 73 #[.val (Value.ref a), .val (Value.int x1), .val (Value.int x2), .val (Value.int (own_need x1 x2)), .val (Value.int (own_hob (own_need x1 x2)))] [(Value.ref a), (Value.ref a)])) rfl rfl (hb hby own_d1_73)
    refine own_st st40 ?_
    show own_G p e below s _ _ _ (T40.setTop (mkF m 76 #[.val (Value.ref a), .val (Value.int x1), .val (Value.int x2), .val (Value.int (own_need x1 x2)), .val (Value.int (own_hob (own_need x1 x2)))] [(Value.ref ad31), (Value.ref a)]))
    refine own_alen X40 hx hby hZ e40 A39_ad31 own_d1_76 ?_
    show own_G p e below s _ _ _ (T40.setTop (mkF m 77 #[.val (Value.ref a), .val (Value.int x1), .val (Value.int x2), .val (Value.int (own_need x1 x2)), .val (Value.int (own_hob (own_need x1 x2)))] [(Value.int n.toInt32), (Value.ref a)]))
    obtain ⟨T41, h41, k41, X41, e41, E41, A41, st41⟩ := newP X40 hx hZ (aty := .int) (own_w32 hw) e40 (g := (mkF m 77 #[.val (Value.ref a), .val (Value.int x1), .val (Value.int x2), .val (Value.int (own_need x1 x2)), .val (Value.int (own_hob (own_need x1 x2)))] [(Value.int n.toInt32), (Value.ref a)])) rfl (hb hby own_d1_77) rfl (own_small hN).2.1 (cap := 64) (by rw [(own_small hN).2.2]; omega) (by decide) (by decide) (by decide)
    obtain ⟨ad41, g41⟩ : ∃ z, z = h38.size := ⟨_, rfl⟩
    rw [← g41] at A41 st41
    have ne41_ad31 : ad31 ≠ ad41 := by rw [g41]; exact Nat.ne_of_lt A39_ad31.lt
    have ne41_a : a ≠ ad41 := by rw [g41]; exact Nat.ne_of_lt F39_a_limit.lt
    have ne41_ad36 : ad36 ≠ ad41 := by rw [g41]; exact Nat.ne_of_lt A39_ad36.lt
    have F42_a_limit := Fld.ext E41 F39_a_limit
    have F42_a_vertices := Fld.ext E41 F39_a_vertices
    have F42_a_lists := Fld.ext E41 F38w
    have F42_a_depths := Fld.ext E41 F39_a_depths
    have E42_a := Exa.ext E41 E39_a
    have A42_ad31 := own_Ar.ext A39_ad31 E41
    have A42_ad36 := own_Ar.ext A39_ad36 E41
    have O42 := Old.ext O39 E41
    have g41n : n0 ≤ ad41 := by rw [g41]; exact O39.1 ▸ O39.2.1
    have z41n : h0.size ≤ ad41 := by rw [g41]; exact (K38).1
    have A41v : own_Ar Z h41 ad41 .int n (fun _ => (.int (0 : Int32))) := (by have q := own_Ar.new A41 (own_small hN).2.1; rw [(own_small hN).2.2] at q; exact q)
    have K41 := Keep.ext K38 E41
    refine own_st st41 ?_
    show own_G p e below s _ _ _ (T41.setTop (mkF m 79 #[.val (Value.ref a), .val (Value.int x1), .val (Value.int x2), .val (Value.int (own_need x1 x2)), .val (Value.int (own_hob (own_need x1 x2)))] [(Value.ref ad41), (Value.ref a)]))
    obtain ⟨T43, h43, X43, e43, W43, st43⟩ := putF X41 hx hZ hown (host := "") (Or.inl (own_w39 hw)) Via.refl e41 F42_a_depths E42_a (Or.inl (own_w40 hw)) (own_w3 hw) (ty := (.array .int)) (by decide) rfl rfl (g := (mkF m 79 #[.val (Value.ref a), .val (Value.int x1), .val (Value.int x2), .val (Value.int (own_need x1 x2)), .val (Value.int (own_hob (own_need x1 x2)))] [(Value.ref ad41), (Value.ref a)])) rfl rfl (hb hby own_d1_79)
    have F44_a_limit := Fld.other W43 F42_a_limit (Or.inr (slot_ne (C := "com/example/tuck/tuck/ListWindow") (Or.inr (own_w28 hw)) (Or.inl (own_w40 hw)) (by decide) (t := .int) (t' := (.array .int)) (by decide) (by decide)))
    have F44_a_vertices := Fld.other W43 F42_a_vertices (Or.inr (slot_ne (C := "com/example/tuck/tuck/ListWindow") (Or.inl (own_w34 hw)) (Or.inl (own_w40 hw)) (by decide) (t := (.array .int)) (t' := (.array .int)) (by decide) (by decide)))
    have F44_a_lists := Fld.other W43 F42_a_lists (Or.inr (slot_ne (C := "com/example/tuck/tuck/ListWindow") (Or.inl (own_w38 hw)) (Or.inl (own_w40 hw)) (by decide) (t := (.array (.array .int))) (t' := (.array .int)) (by decide) (by decide)))
    have E44_a := Exa.wr W43 E42_a
    have A44_ad31 := own_Ar.other A42_ad31 W43 (Ne.symm ne31_a)
    have A44_ad36 := own_Ar.other A42_ad36 W43 (Ne.symm ne36_a)
    have A44_ad41 := own_Ar.other A41v W43 (Ne.symm ne41_a)
    have O44 := Old.wr O42 W43 g_a
    have F43w := Fld.same W43 F42_a_depths
    have K43 := Keep.wr K41 W43 (Or.inl (List.mem_of_getElem? (i := 0) rfl))
    have N43 := Fr.snoc X43 N38 g_a
    refine own_st st43 ?_
    show own_G p e below s _ _ _ (T43.setTop (mkF m 82 #[.val (Value.ref a), .val (Value.int x1), .val (Value.int x2), .val (Value.int (own_need x1 x2)), .val (Value.int (own_hob (own_need x1 x2)))] []))
    have Az_vertices : own_Ar Z h43 ad31 .int n (fun j => Value.int ((fun _ => (0 : Int32)) j)) := A44_ad31
    have Az_depths : own_Ar Z h43 ad41 .int n (fun j => Value.int ((fun _ => (0 : Int32)) j)) := A44_ad41
    refine own_aloadN X43 hx hby own_d1_82 rfl rfl ?_
    show own_G p e below s _ _ _ (T43.setTop (mkF m 83 #[.val (Value.ref a), .val (Value.int x1), .val (Value.int x2), .val (Value.int (own_need x1 x2)), .val (Value.int (own_hob (own_need x1 x2)))] [(Value.ref a)]))
    obtain ⟨T45, X45, e45, st45⟩ := getF X43 hx hZ hown (host := "") (Or.inl (own_w33 hw)) Via.refl e43 F44_a_vertices (g := (mkF m 83 #[.val (Value.ref a), .val (Value.int x1), .val (Value.int x2), .val (Value.int (own_need x1 x2)), .val (Value.int (own_hob (own_need x1 x2)))] [(Value.ref a)])) rfl rfl (hb hby own_d1_83)
    refine own_st st45 ?_
    show own_G p e below s _ _ _ (T45.setTop (mkF m 86 #[.val (Value.ref a), .val (Value.int x1), .val (Value.int x2), .val (Value.int (own_need x1 x2)), .val (Value.int (own_hob (own_need x1 x2)))] [(Value.ref ad31)]))
    refine own_iconst X45 hx hby own_d1_86 ?_
    show own_G p e below s _ _ _ (T45.setTop (mkF m 87 #[.val (Value.ref a), .val (Value.int x1), .val (Value.int x2), .val (Value.int (own_need x1 x2)), .val (Value.int (own_hob (own_need x1 x2)))] [(Value.int (-1 : Int32)), (Value.ref ad31)]))
    obtain ⟨_, _, ⟨T46, L46, k46, n46⟩, -, X46, ⟨Lc46, hQ46, l46, y46, z46⟩, st46⟩ := Jvm.LawKit.callS X45 hx (y := (⟨"java/util/Arrays", "fill", "([II)V"⟩ : MethodName)) hown (mvT hZ (own_w41 hw)) (mvT hZ (own_w42 hw)) (mvT hZ (own_w43 hw)) (mvT hZ (own_w44 hw)) (by decide) (backOf (W := 0) (own_rmF l Z a0 hw [] ad31 (-1 : Int32) n (fun _ => (0 : Int32)) h43 n0 O44 Az_vertices g31n hN) hZ (own_w44 hw) (own_w43 hw) (by decide) (by decide)) (g := (mkF m 87 #[.val (Value.ref a), .val (Value.int x1), .val (Value.int x2), .val (Value.int (own_need x1 x2)), .val (Value.int (own_hob (own_need x1 x2)))] [(Value.int (-1 : Int32)), (Value.ref ad31)])) rfl (by rw [hml]; rfl) (argsL := [(Value.ref ad31), (Value.int (-1 : Int32))]) (rest := []) (lenOf own_pd1 rfl) rfl (by show 2 * 0 + _ ≤ _; exact Nat.le_of_eq rfl) (hb hby own_d1_87) (fun _ _ => ⟨rfl, e45, (by decide : (3 : Nat) + 0 ≤ _), (by decide : (192 : Nat) + 0 ≤ _)⟩)
    dsimp only [Pt.U, Pt.locs, Pt.cells, Pt.slots] at X46 l46 y46 z46 st46 hQ46
    subst l46 y46 z46
    obtain ⟨rfl, Nq46, Kq46, Aq46⟩ := hQ46
    have N46 := Fr.app N43 Nq46
    have F47_a_limit := Fld.keep F44_a_limit Kq46 (ninS ne31_a nin0)
    have F47_a_vertices := Fld.keep F44_a_vertices Kq46 (ninS ne31_a nin0)
    have F47_a_lists := Fld.keep F44_a_lists Kq46 (ninS ne31_a nin0)
    have F47_a_depths := Fld.keep F43w Kq46 (ninS ne31_a nin0)
    have E47_a := Exa.keep E44_a Kq46
    have A47_ad36 := own_Ar.keep A44_ad36 Kq46 (ninS (Ne.symm ne36_ad31) nin0)
    have A47_ad41 := own_Ar.keep Az_depths Kq46 (ninS (Ne.symm ne41_ad31) nin0)
    have O47 := Old.keep O44 Kq46 (allS g31n all0)
    have K46 := Keep.trans K43 Kq46 (allS (Or.inr z31n) all0)
    refine own_st st46 ?_
    show own_G p e below s _ _ _ (T46.setTop (mkF m 90 #[.val (Value.ref a), .val (Value.int x1), .val (Value.int x2), .val (Value.int (own_need x1 x2)), .val (Value.int (own_hob (own_need x1 x2)))] []))
    refine own_ret0 X46 hx hby hlk Bd.returns own_d1_90 (by decide) (by decide) ?_
    show own_rmI_Q Z a x1 x2 h0 n0 _ T46.heap _
    skip
    subst hlm
    exact ⟨rfl, N46, K46, ad31, ad36, ad41, n, z31n, z36n, z41n, hpw, hnl, E47_a, F47_a_limit, F47_a_vertices, F47_a_lists, F47_a_depths, Aq46, A47_ad36, A47_ad41, g31n, g36n, g41n, ne31_a, ne36_a, ne41_a, ne36_ad31, ne41_ad31, ne41_ad36⟩
def own_rmG_Q (Z : State) (a : Addr) (lim : Int32) (kv kl kd : Addr) (V D : Nat → Int32) (h0 : Heap) (n0 : Nat) : Option Value → Heap → List Loc → Prop := fun v h L => v = none ∧ Fr n0 L ∧ Keep h0 h [a] ∧ ∃ kv kl kd, h0.size ≤ kv ∧ h0.size ≤ kl ∧ h0.size ≤ kd ∧ Exa Z h a "com/example/tuck/tuck/ListWindow" ∧ Fld Z h a "com/example/tuck/tuck/ListWindow" "limit" "I" (.int lim) ∧ Fld Z h a "com/example/tuck/tuck/ListWindow" "vertices" "[I" (.ref kv) ∧ Fld Z h a "com/example/tuck/tuck/ListWindow" "lists" "[[I" (.ref kl) ∧ Fld Z h a "com/example/tuck/tuck/ListWindow" "depths" "[I" (.ref kd) ∧ own_Ar Z h kv .int 128 (fun j => Value.int ((own_gv V 64) j)) ∧ own_Ar Z h kl (.array .int) 128 (fun _ => Value.null) ∧ own_Ar Z h kd .int 128 (fun j => Value.int ((own_gd V D 64) j)) ∧ n0 ≤ kv ∧ n0 ≤ kl ∧ n0 ≤ kd ∧ a ≠ kv ∧ a ≠ kl ∧ a ≠ kd ∧ kv ≠ kl ∧ kv ≠ kd ∧ kl ≠ kd
theorem own_rmG_ef (m : MethodId) (a : Addr)  : entryFrame m #[(Value.ref a)] 7 = mkF m 0 #[.val (Value.ref a), .unset, .unset, .unset, .unset, .unset, .unset] [] := by first | (simp [entryFrame, mkF, argsToLocals, Value.category]; done) | rfl
set_option maxRecDepth 65536 in
set_option maxHeartbeats 40000000 in
theorem own_rmG (l : Launch) (Z : State) (a0 : Array Value) (hw : ∀ d ∈ tables_1, d.before a0 Z = true) (ws : List Jvm.Cond) (a : Addr) (lim : Int32) (kv kl kd : Addr) (V D : Nat → Int32) (h0 : Heap) (n0 : Nat) (O0 : Old Z n0 h0) (E_a : Exa Z h0 a "com/example/tuck/tuck/ListWindow") (F_lim : Fld Z h0 a "com/example/tuck/tuck/ListWindow" "limit" "I" (.int lim)) (F_v : Fld Z h0 a "com/example/tuck/tuck/ListWindow" "vertices" "[I" (.ref kv)) (F_l : Fld Z h0 a "com/example/tuck/tuck/ListWindow" "lists" "[[I" (.ref kl)) (F_d : Fld Z h0 a "com/example/tuck/tuck/ListWindow" "depths" "[I" (.ref kd)) (A_v : own_Ar Z h0 kv .int 64 (fun j => Value.int (V j))) (A_l : own_Ar Z h0 kl (.array .int) 64 (fun _ => Value.null)) (A_d : own_Ar Z h0 kd .int 64 (fun j => Value.int (D j))) (ga : n0 ≤ a) (gv : n0 ≤ kv) (gl : n0 ≤ kl) (gd : n0 ≤ kd) (nav : a ≠ kv) (nal : a ≠ kl) (nad : a ≠ kd) (nvl : kv ≠ kl) (nvd : kv ≠ kd) (nld : kl ≠ kd) :
    MetFree l (⟨"com/example/tuck/tuck/ListWindow", "grow", "()V"⟩ : MethodName) (head1 (Jvm.Cond.code (⟨"com/example/tuck/tuck/ListWindow", "grow", "()V"⟩ : MethodName) prog_53_method_4_code 7 none :: ws) ({ frames := 1, cells := 3, slots := 384, locals := 15 } : Room)) (fun aa_ U => aa_ = #[(Value.ref a)] ∧ Z.Warmed39 U.vm ∧ U.heap = h0) (fun _ _ _ _ _ => True) (fun _ UU_ oo_ UX_ => ∃ vv_ LL_, oo_ = .returned vv_ ∧ (own_rmG_Q Z a lim kv kl kd V D h0 n0) vv_ UX_.heap LL_ ∧ FrameEnd UU_ oo_ UX_ LL_ ({ frames := 1, cells := 3, slots := 384, locals := 15 } : Room).cells ({ frames := 1, cells := 3, slots := 384, locals := 15 } : Room).slots) := by
  refine MetFree.of_bodySF (plainFor_of_name own_pn2) hisR ?_
  intro p e s m args below meth c s₁ Bd hml0 hP hK
  obtain ⟨rfl, hZ, hh⟩ := hP
  have hx := Bd.exec
  have hby := Bd.bytes
  have hml : c.maxLocals = 7 := hml0
  have hown : s.vm.findClass "com/example/tuck/tuck/ListWindow" = some m.cls := findClass_of_methodNamed Bd.named
  have hnm := (name_of_methodNamed Bd.named Bd.method).1
  have hlk : meth.locks = false := BodyLoose.notSynchronized Bd
  have X0 : Stand p l e ({ frames := 1, cells := 3, slots := 384, locals := 15 } : Room) s m #[(Value.ref a)] below meth c s₁ [] 0 0 := Stand.of_body Bd
  have e0 : s₁.heap = h0 := by rw [← hh, Bd.state]; rfl
  have N0 := Fr.nil n0
  show own_G p e below s (own_rmG_Q Z a lim kv kl kd V D h0 n0) ({ frames := 1, cells := 3, slots := 384, locals := 15 } : Room).cells ({ frames := 1, cells := 3, slots := 384, locals := 15 } : Room).slots (s₁.setTop (entryFrame m #[(Value.ref a)] 7))
  refine own_cast (own_rmG_ef m a ) ?_
  show own_G p e below s _ _ _ (s₁.setTop (mkF m 0 #[.val (Value.ref a), .unset, .unset, .unset, .unset, .unset, .unset] []))
  refine own_aloadN X0 hx hby own_d12_0 rfl rfl ?_
  show own_G p e below s _ _ _ (s₁.setTop (mkF m 1 #[.val (Value.ref a), .unset, .unset, .unset, .unset, .unset, .unset] [(Value.ref a)]))
  obtain ⟨T1, X1, e1, st1⟩ := getF X0 hx hZ hown (host := "") (Or.inl (own_w33 hw)) Via.refl e0 F_v (g := (mkF m 1 #[.val (Value.ref a), .unset, .unset, .unset, .unset, .unset, .unset] [(Value.ref a)])) rfl rfl (hb hby own_d12_1)
  refine own_st st1 ?_
  show own_G p e below s _ _ _ (T1.setTop (mkF m 4 #[.val (Value.ref a), .unset, .unset, .unset, .unset, .unset, .unset] [(Value.ref kv)]))
  refine own_astoreN X1 hx hby own_d12_4 rfl (l' := #[.val (Value.ref a), .val (Value.ref kv), .unset, .unset, .unset, .unset, .unset]) rfl ?_
  show own_G p e below s _ _ _ (T1.setTop (mkF m 5 #[.val (Value.ref a), .val (Value.ref kv), .unset, .unset, .unset, .unset, .unset] []))
  refine own_aloadN X1 hx hby own_d12_5 rfl rfl ?_
  show own_G p e below s _ _ _ (T1.setTop (mkF m 6 #[.val (Value.ref a), .val (Value.ref kv), .unset, .unset, .unset, .unset, .unset] [(Value.ref a)]))
  obtain ⟨T2, X2, e2, st2⟩ := getF X1 hx hZ hown (host := "") (Or.inl (own_w37 hw)) Via.refl e1 F_l (g := (mkF m 6 #[.val (Value.ref a), .val (Value.ref kv), .unset, .unset, .unset, .unset, .unset] [(Value.ref a)])) rfl rfl (hb hby own_d12_6)
  refine own_st st2 ?_
  show own_G p e below s _ _ _ (T2.setTop (mkF m 9 #[.val (Value.ref a), .val (Value.ref kv), .unset, .unset, .unset, .unset, .unset] [(Value.ref kl)]))
  refine own_astoreN X2 hx hby own_d12_9 rfl (l' := #[.val (Value.ref a), .val (Value.ref kv), .val (Value.ref kl), .unset, .unset, .unset, .unset]) rfl ?_
  show own_G p e below s _ _ _ (T2.setTop (mkF m 10 #[.val (Value.ref a), .val (Value.ref kv), .val (Value.ref kl), .unset, .unset, .unset, .unset] []))
  refine own_aloadN X2 hx hby own_d12_10 rfl rfl ?_
  show own_G p e below s _ _ _ (T2.setTop (mkF m 11 #[.val (Value.ref a), .val (Value.ref kv), .val (Value.ref kl), .unset, .unset, .unset, .unset] [(Value.ref a)]))
  obtain ⟨T3, X3, e3, st3⟩ := getF X2 hx hZ hown (host := "") (Or.inl (own_w39 hw)) Via.refl e2 F_d (g := (mkF m 11 #[.val (Value.ref a), .val (Value.ref kv), .val (Value.ref kl), .unset, .unset, .unset, .unset] [(Value.ref a)])) rfl rfl (hb hby own_d12_11)
  refine own_st st3 ?_
  show own_G p e below s _ _ _ (T3.setTop (mkF m 14 #[.val (Value.ref a), .val (Value.ref kv), .val (Value.ref kl), .unset, .unset, .unset, .unset] [(Value.ref kd)]))
  refine own_astoreN X3 hx hby own_d12_14 rfl (l' := #[.val (Value.ref a), .val (Value.ref kv), .val (Value.ref kl), .val (Value.ref kd), .unset, .unset, .unset]) rfl ?_
  show own_G p e below s _ _ _ (T3.setTop (mkF m 15 #[.val (Value.ref a), .val (Value.ref kv), .val (Value.ref kl), .val (Value.ref kd), .unset, .unset, .unset] []))
  refine own_iconst X3 hx hby own_d12_15 ?_
  show own_G p e below s _ _ _ (T3.setTop (mkF m 16 #[.val (Value.ref a), .val (Value.ref kv), .val (Value.ref kl), .val (Value.ref kd), .unset, .unset, .unset] [(Value.int (2 : Int32))]))
  refine own_aloadN X3 hx hby own_d12_16 rfl rfl ?_
  show own_G p e below s _ _ _ (T3.setTop (mkF m 17 #[.val (Value.ref a), .val (Value.ref kv), .val (Value.ref kl), .val (Value.ref kd), .unset, .unset, .unset] [(Value.ref kv), (Value.int (2 : Int32))]))
  refine own_alen X3 hx hby hZ e3 A_v own_d12_17 ?_
  show own_G p e below s _ _ _ (T3.setTop (mkF m 18 #[.val (Value.ref a), .val (Value.ref kv), .val (Value.ref kl), .val (Value.ref kd), .unset, .unset, .unset] [(Value.int (64 : Int32)), (Value.int (2 : Int32))]))
  refine own_imul X3 hx hby own_d12_18 ?_
  show own_G p e below s _ _ _ (T3.setTop (mkF m 19 #[.val (Value.ref a), .val (Value.ref kv), .val (Value.ref kl), .val (Value.ref kd), .unset, .unset, .unset] [(Value.int ((2 : Int32) * (64 : Int32)))]))
  show own_G p e below s _ _ _ (T3.setTop (mkF m 19 #[.val (Value.ref a), .val (Value.ref kv), .val (Value.ref kl), .val (Value.ref kd), .unset, .unset, .unset] [(Value.int (128 : Int32))]))
  refine own_istore X3 hx hby own_d12_19 (l' := #[.val (Value.ref a), .val (Value.ref kv), .val (Value.ref kl), .val (Value.ref kd), .val (Value.int (128 : Int32)), .unset, .unset]) rfl ?_
  show own_G p e below s _ _ _ (T3.setTop (mkF m 21 #[.val (Value.ref a), .val (Value.ref kv), .val (Value.ref kl), .val (Value.ref kd), .val (Value.int (128 : Int32)), .unset, .unset] []))
  refine own_aloadN X3 hx hby own_d12_21 rfl rfl ?_
  show own_G p e below s _ _ _ (T3.setTop (mkF m 22 #[.val (Value.ref a), .val (Value.ref kv), .val (Value.ref kl), .val (Value.ref kd), .val (Value.int (128 : Int32)), .unset, .unset] [(Value.ref a)]))
  refine own_iload X3 hx hby own_d12_22 rfl ?_
  show own_G p e below s _ _ _ (T3.setTop (mkF m 24 #[.val (Value.ref a), .val (Value.ref kv), .val (Value.ref kl), .val (Value.ref kd), .val (Value.int (128 : Int32)), .unset, .unset] [(Value.int (128 : Int32)), (Value.ref a)]))
  obtain ⟨T4, h4, k4, X4, e4, E4, A4, st4⟩ := newP X3 hx hZ (aty := .int) (own_w32 hw) e3 (g := (mkF m 24 #[.val (Value.ref a), .val (Value.ref kv), .val (Value.ref kl), .val (Value.ref kd), .val (Value.int (128 : Int32)), .unset, .unset] [(Value.int (128 : Int32)), (Value.ref a)])) rfl (hb hby own_d12_24) rfl (by decide) (cap := 128) (by decide) (by decide) (by decide) (by decide)
  obtain ⟨ad4, g4⟩ : ∃ z, z = h0.size := ⟨_, rfl⟩
  rw [← g4] at A4 st4
  have ne4_kv : kv ≠ ad4 := by rw [g4]; exact Nat.ne_of_lt A_v.lt
  have ne4_a : a ≠ ad4 := by rw [g4]; exact Nat.ne_of_lt F_lim.lt
  have ne4_kd : kd ≠ ad4 := by rw [g4]; exact Nat.ne_of_lt A_d.lt
  have ne4_kl : kl ≠ ad4 := by rw [g4]; exact Nat.ne_of_lt A_l.lt
  have F5_a_limit := Fld.ext E4 F_lim
  have F5_a_vertices := Fld.ext E4 F_v
  have F5_a_lists := Fld.ext E4 F_l
  have F5_a_depths := Fld.ext E4 F_d
  have E5_a := Exa.ext E4 E_a
  have A5_kv := own_Ar.ext A_v E4
  have A5_kl := own_Ar.ext A_l E4
  have A5_kd := own_Ar.ext A_d E4
  have O5 := Old.ext O0 E4
  have g4n : n0 ≤ ad4 := by rw [g4]; exact O0.1 ▸ O0.2.1
  have z4n : h0.size ≤ ad4 := by rw [g4]; exact ((Keep.refl h0 [a])).1
  have A4v : own_Ar Z h4 ad4 .int 128 (fun _ => (.int (0 : Int32))) := own_Ar.new A4 (by decide)
  have K4 := Keep.ext (Keep.refl h0 [a]) E4
  refine own_st st4 ?_
  show own_G p e below s _ _ _ (T4.setTop (mkF m 26 #[.val (Value.ref a), .val (Value.ref kv), .val (Value.ref kl), .val (Value.ref kd), .val (Value.int (128 : Int32)), .unset, .unset] [(Value.ref ad4), (Value.ref a)]))
  obtain ⟨T6, h6, X6, e6, W6, st6⟩ := putF X4 hx hZ hown (host := "") (Or.inl (own_w33 hw)) Via.refl e4 F5_a_vertices E5_a (Or.inl (own_w34 hw)) (own_w3 hw) (ty := (.array .int)) (by decide) rfl rfl (g := (mkF m 26 #[.val (Value.ref a), .val (Value.ref kv), .val (Value.ref kl), .val (Value.ref kd), .val (Value.int (128 : Int32)), .unset, .unset] [(Value.ref ad4), (Value.ref a)])) rfl rfl (hb hby own_d12_26)
  have F7_a_limit := Fld.other W6 F5_a_limit (Or.inr (slot_ne (C := "com/example/tuck/tuck/ListWindow") (Or.inr (own_w28 hw)) (Or.inl (own_w34 hw)) (by decide) (t := .int) (t' := (.array .int)) (by decide) (by decide)))
  have F7_a_lists := Fld.other W6 F5_a_lists (Or.inr (slot_ne (C := "com/example/tuck/tuck/ListWindow") (Or.inl (own_w38 hw)) (Or.inl (own_w34 hw)) (by decide) (t := (.array (.array .int))) (t' := (.array .int)) (by decide) (by decide)))
  have F7_a_depths := Fld.other W6 F5_a_depths (Or.inr (slot_ne (C := "com/example/tuck/tuck/ListWindow") (Or.inl (own_w40 hw)) (Or.inl (own_w34 hw)) (by decide) (t := (.array .int)) (t' := (.array .int)) (by decide) (by decide)))
  have E7_a := Exa.wr W6 E5_a
  have A7_kv := own_Ar.other A5_kv W6 (Ne.symm nav)
  have A7_kl := own_Ar.other A5_kl W6 (Ne.symm nal)
  have A7_kd := own_Ar.other A5_kd W6 (Ne.symm nad)
  have A7_ad4 := own_Ar.other A4v W6 (Ne.symm ne4_a)
  have O7 := Old.wr O5 W6 ga
  have F6w := Fld.same W6 F5_a_vertices
  have K6 := Keep.wr K4 W6 (Or.inl (List.mem_of_getElem? (i := 0) rfl))
  have N6 := Fr.snoc X6 N0 ga
  refine own_st st6 ?_
  show own_G p e below s _ _ _ (T6.setTop (mkF m 29 #[.val (Value.ref a), .val (Value.ref kv), .val (Value.ref kl), .val (Value.ref kd), .val (Value.int (128 : Int32)), .unset, .unset] []))
  refine own_aloadN X6 hx hby own_d12_29 rfl rfl ?_
  show own_G p e below s _ _ _ (T6.setTop (mkF m 30 #[.val (Value.ref a), .val (Value.ref kv), .val (Value.ref kl), .val (Value.ref kd), .val (Value.int (128 : Int32)), .unset, .unset] [(Value.ref a)]))
  refine own_iload X6 hx hby own_d12_30 rfl ?_
  show own_G p e below s _ _ _ (T6.setTop (mkF m 32 #[.val (Value.ref a), .val (Value.ref kv), .val (Value.ref kl), .val (Value.ref kd), .val (Value.int (128 : Int32)), .unset, .unset] [(Value.int (128 : Int32)), (Value.ref a)]))
  obtain ⟨T8, h8, k8, X8, e8, E8, A8, st8⟩ := own_anewA X6 hx hZ hown (own_w35 hw) (own_w36 hw) e6 (g := (mkF m 32 #[.val (Value.ref a), .val (Value.ref kv), .val (Value.ref kl), .val (Value.ref kd), .val (Value.int (128 : Int32)), .unset, .unset] [(Value.int (128 : Int32)), (Value.ref a)])) rfl (hb hby own_d12_32) rfl (by decide) (cap := 128) (by decide) (by decide) (by decide) (by decide)
  obtain ⟨ad8, g8⟩ : ∃ z, z = h6.size := ⟨_, rfl⟩
  rw [← g8] at A8 st8
  have ne8_kv : kv ≠ ad8 := by rw [g8]; exact Nat.ne_of_lt A7_kv.lt
  have ne8_ad4 : ad4 ≠ ad8 := by rw [g8]; exact Nat.ne_of_lt A7_ad4.lt
  have ne8_kl : kl ≠ ad8 := by rw [g8]; exact Nat.ne_of_lt A7_kl.lt
  have ne8_a : a ≠ ad8 := by rw [g8]; exact Nat.ne_of_lt F7_a_limit.lt
  have ne8_kd : kd ≠ ad8 := by rw [g8]; exact Nat.ne_of_lt A7_kd.lt
  have F9_a_limit := Fld.ext E8 F7_a_limit
  have F9_a_vertices := Fld.ext E8 F6w
  have F9_a_lists := Fld.ext E8 F7_a_lists
  have F9_a_depths := Fld.ext E8 F7_a_depths
  have E9_a := Exa.ext E8 E7_a
  have A9_kv := own_Ar.ext A7_kv E8
  have A9_kl := own_Ar.ext A7_kl E8
  have A9_kd := own_Ar.ext A7_kd E8
  have A9_ad4 := own_Ar.ext A7_ad4 E8
  have O9 := Old.ext O7 E8
  have g8n : n0 ≤ ad8 := by rw [g8]; exact O7.1 ▸ O7.2.1
  have z8n : h0.size ≤ ad8 := by rw [g8]; exact (K6).1
  have A8v : own_Ar Z h8 ad8 (.array .int) 128 (fun _ => Value.null) := own_Ar.new A8 (by decide)
  have K8 := Keep.ext K6 E8
  refine own_st st8 ?_
  show own_G p e below s _ _ _ (T8.setTop (mkF m 35 #[.val (Value.ref a), .val (Value.ref kv), .val (Value.ref kl), .val (Value.ref kd), .val (Value.int (128 : Int32)), .unset, .unset] [(Value.ref ad8), (Value.ref a)]))
  obtain ⟨T10, h10, X10, e10, W10, st10⟩ := putF X8 hx hZ hown (host := "") (Or.inl (own_w37 hw)) Via.refl e8 F9_a_lists E9_a (Or.inl (own_w38 hw)) (own_w3 hw) (ty := (.array (.array .int))) (by decide) rfl rfl (g := (mkF m 35 #[.val (Value.ref a), .val (Value.ref kv), .val (Value.ref kl), .val (Value.ref kd), .val (Value.int (128 : Int32)), .unset, .unset] [(Value.ref ad8), (Value.ref a)])) rfl rfl (hb hby own_d12_35)
  have F11_a_limit := Fld.other W10 F9_a_limit (Or.inr (slot_ne (C := "com/example/tuck/tuck/ListWindow") (Or.inr (own_w28 hw)) (Or.inl (own_w38 hw)) (by decide) (t := .int) (t' := (.array (.array .int))) (by decide) (by decide)))
  have F11_a_vertices := Fld.other W10 F9_a_vertices (Or.inr (slot_ne (C := "com/example/tuck/tuck/ListWindow") (Or.inl (own_w34 hw)) (Or.inl (own_w38 hw)) (by decide) (t := (.array .int)) (t' := (.array (.array .int))) (by decide) (by decide)))
  have F11_a_depths := Fld.other W10 F9_a_depths (Or.inr (slot_ne (C := "com/example/tuck/tuck/ListWindow") (Or.inl (own_w40 hw)) (Or.inl (own_w38 hw)) (by decide) (t := (.array .int)) (t' := (.array (.array .int))) (by decide) (by decide)))
  have E11_a := Exa.wr W10 E9_a
  have A11_kv := own_Ar.other A9_kv W10 (Ne.symm nav)
  have A11_kl := own_Ar.other A9_kl W10 (Ne.symm nal)
  have A11_kd := own_Ar.other A9_kd W10 (Ne.symm nad)
  have A11_ad4 := own_Ar.other A9_ad4 W10 (Ne.symm ne4_a)
  have A11_ad8 := own_Ar.other A8v W10 (Ne.symm ne8_a)
  have O11 := Old.wr O9 W10 ga
  have F10w := Fld.same W10 F9_a_lists
  have K10 := Keep.wr K8 W10 (Or.inl (List.mem_of_getElem? (i := 0) rfl))
  have N10 := Fr.snoc X10 N6 ga
  refine own_st st10 ?_
  show own_G p e below s _ _ _ (T10.setTop (mkF m 38 #[.val (Value.ref a), .val (Value.ref kv), .val (Value.ref kl), .val (Value.ref kd), .val (Value.int (128 : Int32)), .unset, .unset] []))
  refine own_aloadN X10 hx hby own_d12_38 rfl rfl ?_
  show own_G p e below s _ _ _ (T10.setTop (mkF m 39 #[.val (Value.ref a), .val (Value.ref kv), .val (Value.ref kl), .val (Value.ref kd), .val (Value.int (128 : Int32)), .unset, .unset] [(Value.ref a)]))
  refine own_iload X10 hx hby own_d12_39 rfl ?_
  show own_G p e below s _ _ _ (T10.setTop (mkF m 41 #[.val (Value.ref a), .val (Value.ref kv), .val (Value.ref kl), .val (Value.ref kd), .val (Value.int (128 : Int32)), .unset, .unset] [(Value.int (128 : Int32)), (Value.ref a)]))
  obtain ⟨T12, h12, k12, X12, e12, E12, A12, st12⟩ := newP X10 hx hZ (aty := .int) (own_w32 hw) e10 (g := (mkF m 41 #[.val (Value.ref a), .val (Value.ref kv), .val (Value.ref kl), .val (Value.ref kd), .val (Value.int (128 : Int32)), .unset, .unset] [(Value.int (128 : Int32)), (Value.ref a)])) rfl (hb hby own_d12_41) rfl (by decide) (cap := 128) (by decide) (by decide) (by decide) (by decide)
  obtain ⟨ad12, g12⟩ : ∃ z, z = h10.size := ⟨_, rfl⟩
  rw [← g12] at A12 st12
  have ne12_kv : kv ≠ ad12 := by rw [g12]; exact Nat.ne_of_lt A11_kv.lt
  have ne12_ad4 : ad4 ≠ ad12 := by rw [g12]; exact Nat.ne_of_lt A11_ad4.lt
  have ne12_kl : kl ≠ ad12 := by rw [g12]; exact Nat.ne_of_lt A11_kl.lt
  have ne12_a : a ≠ ad12 := by rw [g12]; exact Nat.ne_of_lt F11_a_limit.lt
  have ne12_kd : kd ≠ ad12 := by rw [g12]; exact Nat.ne_of_lt A11_kd.lt
  have ne12_ad8 : ad8 ≠ ad12 := by rw [g12]; exact Nat.ne_of_lt A11_ad8.lt
  have F13_a_limit := Fld.ext E12 F11_a_limit
  have F13_a_vertices := Fld.ext E12 F11_a_vertices
  have F13_a_lists := Fld.ext E12 F10w
  have F13_a_depths := Fld.ext E12 F11_a_depths
  have E13_a := Exa.ext E12 E11_a
  have A13_kv := own_Ar.ext A11_kv E12
  have A13_kl := own_Ar.ext A11_kl E12
  have A13_kd := own_Ar.ext A11_kd E12
  have A13_ad4 := own_Ar.ext A11_ad4 E12
  have A13_ad8 := own_Ar.ext A11_ad8 E12
  have O13 := Old.ext O11 E12
  have g12n : n0 ≤ ad12 := by rw [g12]; exact O11.1 ▸ O11.2.1
  have z12n : h0.size ≤ ad12 := by rw [g12]; exact (K10).1
  have A12v : own_Ar Z h12 ad12 .int 128 (fun _ => (.int (0 : Int32))) := own_Ar.new A12 (by decide)
  have K12 := Keep.ext K10 E12
  refine own_st st12 ?_
  show own_G p e below s _ _ _ (T12.setTop (mkF m 43 #[.val (Value.ref a), .val (Value.ref kv), .val (Value.ref kl), .val (Value.ref kd), .val (Value.int (128 : Int32)), .unset, .unset] [(Value.ref ad12), (Value.ref a)]))
  obtain ⟨T14, h14, X14, e14, W14, st14⟩ := putF X12 hx hZ hown (host := "") (Or.inl (own_w39 hw)) Via.refl e12 F13_a_depths E13_a (Or.inl (own_w40 hw)) (own_w3 hw) (ty := (.array .int)) (by decide) rfl rfl (g := (mkF m 43 #[.val (Value.ref a), .val (Value.ref kv), .val (Value.ref kl), .val (Value.ref kd), .val (Value.int (128 : Int32)), .unset, .unset] [(Value.ref ad12), (Value.ref a)])) rfl rfl (hb hby own_d12_43)
  have F15_a_limit := Fld.other W14 F13_a_limit (Or.inr (slot_ne (C := "com/example/tuck/tuck/ListWindow") (Or.inr (own_w28 hw)) (Or.inl (own_w40 hw)) (by decide) (t := .int) (t' := (.array .int)) (by decide) (by decide)))
  have F15_a_vertices := Fld.other W14 F13_a_vertices (Or.inr (slot_ne (C := "com/example/tuck/tuck/ListWindow") (Or.inl (own_w34 hw)) (Or.inl (own_w40 hw)) (by decide) (t := (.array .int)) (t' := (.array .int)) (by decide) (by decide)))
  have F15_a_lists := Fld.other W14 F13_a_lists (Or.inr (slot_ne (C := "com/example/tuck/tuck/ListWindow") (Or.inl (own_w38 hw)) (Or.inl (own_w40 hw)) (by decide) (t := (.array (.array .int))) (t' := (.array .int)) (by decide) (by decide)))
  have E15_a := Exa.wr W14 E13_a
  have A15_kv := own_Ar.other A13_kv W14 (Ne.symm nav)
  have A15_kl := own_Ar.other A13_kl W14 (Ne.symm nal)
  have A15_kd := own_Ar.other A13_kd W14 (Ne.symm nad)
  have A15_ad4 := own_Ar.other A13_ad4 W14 (Ne.symm ne4_a)
  have A15_ad8 := own_Ar.other A13_ad8 W14 (Ne.symm ne8_a)
  have A15_ad12 := own_Ar.other A12v W14 (Ne.symm ne12_a)
  have O15 := Old.wr O13 W14 ga
  have F14w := Fld.same W14 F13_a_depths
  have K14 := Keep.wr K12 W14 (Or.inl (List.mem_of_getElem? (i := 0) rfl))
  have N14 := Fr.snoc X14 N10 ga
  refine own_st st14 ?_
  show own_G p e below s _ _ _ (T14.setTop (mkF m 46 #[.val (Value.ref a), .val (Value.ref kv), .val (Value.ref kl), .val (Value.ref kd), .val (Value.int (128 : Int32)), .unset, .unset] []))
  have Az_vertices : own_Ar Z h14 ad4 .int 128 (fun j => Value.int ((fun _ => (0 : Int32)) j)) := A15_ad4
  have Az_depths : own_Ar Z h14 ad12 .int 128 (fun j => Value.int ((fun _ => (0 : Int32)) j)) := A15_ad12
  refine own_aloadN X14 hx hby own_d12_46 rfl rfl ?_
  show own_G p e below s _ _ _ (T14.setTop (mkF m 47 #[.val (Value.ref a), .val (Value.ref kv), .val (Value.ref kl), .val (Value.ref kd), .val (Value.int (128 : Int32)), .unset, .unset] [(Value.ref a)]))
  obtain ⟨T16, X16, e16, st16⟩ := getF X14 hx hZ hown (host := "") (Or.inl (own_w33 hw)) Via.refl e14 F15_a_vertices (g := (mkF m 47 #[.val (Value.ref a), .val (Value.ref kv), .val (Value.ref kl), .val (Value.ref kd), .val (Value.int (128 : Int32)), .unset, .unset] [(Value.ref a)])) rfl rfl (hb hby own_d12_47)
  refine own_st st16 ?_
  show own_G p e below s _ _ _ (T16.setTop (mkF m 50 #[.val (Value.ref a), .val (Value.ref kv), .val (Value.ref kl), .val (Value.ref kd), .val (Value.int (128 : Int32)), .unset, .unset] [(Value.ref ad4)]))
  refine own_iconst X16 hx hby own_d12_50 ?_
  show own_G p e below s _ _ _ (T16.setTop (mkF m 51 #[.val (Value.ref a), .val (Value.ref kv), .val (Value.ref kl), .val (Value.ref kd), .val (Value.int (128 : Int32)), .unset, .unset] [(Value.int (-1 : Int32)), (Value.ref ad4)]))
  obtain ⟨_, _, ⟨T17, L17, k17, n17⟩, -, X17, ⟨Lc17, hQ17, l17, y17, z17⟩, st17⟩ := Jvm.LawKit.callS X16 hx (y := (⟨"java/util/Arrays", "fill", "([II)V"⟩ : MethodName)) hown (mvT hZ (own_w41 hw)) (mvT hZ (own_w42 hw)) (mvT hZ (own_w43 hw)) (mvT hZ (own_w44 hw)) (by decide) (backOf (W := 0) (own_rmF l Z a0 hw [] ad4 (-1 : Int32) 128 (fun _ => (0 : Int32)) h14 n0 O15 Az_vertices g4n (by decide)) hZ (own_w44 hw) (own_w43 hw) (by decide) (by decide)) (g := (mkF m 51 #[.val (Value.ref a), .val (Value.ref kv), .val (Value.ref kl), .val (Value.ref kd), .val (Value.int (128 : Int32)), .unset, .unset] [(Value.int (-1 : Int32)), (Value.ref ad4)])) rfl (by rw [hml]; rfl) (argsL := [(Value.ref ad4), (Value.int (-1 : Int32))]) (rest := []) (lenOf own_pd1 rfl) rfl (by show 2 * 0 + _ ≤ _; exact Nat.le_of_eq rfl) (hb hby own_d12_51) (fun _ _ => ⟨rfl, e16, (by decide : (3 : Nat) + 0 ≤ _), (by decide : (384 : Nat) + 0 ≤ _)⟩)
  dsimp only [Pt.U, Pt.locs, Pt.cells, Pt.slots] at X17 l17 y17 z17 st17 hQ17
  subst l17 y17 z17
  obtain ⟨rfl, Nq17, Kq17, Aq17⟩ := hQ17
  have N17 := Fr.app N14 Nq17
  have F18_a_limit := Fld.keep F15_a_limit Kq17 (ninS ne4_a nin0)
  have F18_a_vertices := Fld.keep F15_a_vertices Kq17 (ninS ne4_a nin0)
  have F18_a_lists := Fld.keep F15_a_lists Kq17 (ninS ne4_a nin0)
  have F18_a_depths := Fld.keep F14w Kq17 (ninS ne4_a nin0)
  have E18_a := Exa.keep E15_a Kq17
  have A18_kv := own_Ar.keep A15_kv Kq17 (ninS ne4_kv nin0)
  have A18_kl := own_Ar.keep A15_kl Kq17 (ninS ne4_kl nin0)
  have A18_kd := own_Ar.keep A15_kd Kq17 (ninS ne4_kd nin0)
  have A18_ad8 := own_Ar.keep A15_ad8 Kq17 (ninS (Ne.symm ne8_ad4) nin0)
  have A18_ad12 := own_Ar.keep Az_depths Kq17 (ninS (Ne.symm ne12_ad4) nin0)
  have O18 := Old.keep O15 Kq17 (allS g4n all0)
  have K17 := Keep.trans K14 Kq17 (allS (Or.inr z4n) all0)
  refine own_st st17 ?_
  show own_G p e below s _ _ _ (T17.setTop (mkF m 54 #[.val (Value.ref a), .val (Value.ref kv), .val (Value.ref kl), .val (Value.ref kd), .val (Value.int (128 : Int32)), .unset, .unset] []))
  refine own_iconst X17 hx hby own_d12_54 ?_
  show own_G p e below s _ _ _ (T17.setTop (mkF m 55 #[.val (Value.ref a), .val (Value.ref kv), .val (Value.ref kl), .val (Value.ref kd), .val (Value.int (128 : Int32)), .unset, .unset] [(Value.int (0 : Int32))]))
  refine own_istore X17 hx hby own_d12_55 (l' := #[.val (Value.ref a), .val (Value.ref kv), .val (Value.ref kl), .val (Value.ref kd), .val (Value.int (128 : Int32)), .val (Value.int (0 : Int32)), .unset]) rfl ?_
  show own_G p e below s _ _ _ (T17.setTop (mkF m 57 #[.val (Value.ref a), .val (Value.ref kv), .val (Value.ref kl), .val (Value.ref kd), .val (Value.int (128 : Int32)), .val (Value.int (0 : Int32)), .unset] []))
  have loop : ∀ (n : Nat) (T19 : State) (h19 : Heap) (lo19 : List Loc) (ii : Int32) (i : Nat) (s6 : Slot) (X19 : Stand p l e ({ frames := 1, cells := 3, slots := 384, locals := 15 } : Room) s m #[(Value.ref a)] below meth c T19 lo19 3 384) (e19 : T19.heap = h19) (N19 : Fr n0 lo19) (O19 : Old Z n0 h19) (K19 : Keep h0 h19 [a]) (F19_a_limit : Fld Z h19 a "com/example/tuck/tuck/ListWindow" "limit" "I" (Value.int lim)) (F19_a_vertices : Fld Z h19 a "com/example/tuck/tuck/ListWindow" "vertices" "[I" (Value.ref ad4)) (F19_a_lists : Fld Z h19 a "com/example/tuck/tuck/ListWindow" "lists" "[[I" (Value.ref ad8)) (F19_a_depths : Fld Z h19 a "com/example/tuck/tuck/ListWindow" "depths" "[I" (Value.ref ad12)) (E19_a : Exa Z h19 a "com/example/tuck/tuck/ListWindow") (A19_kv : own_Ar Z h19 kv .int 64 (fun j => Value.int (V j))) (A19_kl : own_Ar Z h19 kl (.array .int) 64 (fun _ => Value.null)) (A19_kd : own_Ar Z h19 kd .int 64 (fun j => Value.int (D j))) (A19_ad8 : own_Ar Z h19 ad8 (.array .int) 128 (fun _ => Value.null)) (A19_ad12 : own_Ar Z h19 ad12 .int 128 (fun j => Value.int ((own_gd V D i) j))) (A19_ad4 : own_Ar Z h19 ad4 .int 128 (fun j => Value.int ((own_gv V i) j))) (hi : ii.toInt = ((i : Nat) : Int)) (hn : i + n = 64) (h6 : One s6), own_G p e below s (own_rmG_Q Z a lim kv kl kd V D h0 n0) ({ frames := 1, cells := 3, slots := 384, locals := 15 } : Room).cells ({ frames := 1, cells := 3, slots := 384, locals := 15 } : Room).slots (T19.setTop (mkF m 57 #[.val (Value.ref a), .val (Value.ref kv), .val (Value.ref kl), .val (Value.ref kd), .val (Value.int (128 : Int32)), .val (Value.int ii), s6] [])) := by
    intro n
    induction n with
    | zero =>
      intro T19 h19 lo19 ii i s6 X19 e19 N19 O19 K19 F19_a_limit F19_a_vertices F19_a_lists F19_a_depths E19_a A19_kv A19_kl A19_kd A19_ad8 A19_ad12 A19_ad4 hi hn h6
      show own_G p e below s _ _ _ (T19.setTop (mkF m 57 #[.val (Value.ref a), .val (Value.ref kv), .val (Value.ref kl), .val (Value.ref kd), .val (Value.int (128 : Int32)), .val (Value.int ii), s6] []))
      refine own_iload X19 hx hby own_d12_57 rfl ?_
      show own_G p e below s _ _ _ (T19.setTop (mkF m 59 #[.val (Value.ref a), .val (Value.ref kv), .val (Value.ref kl), .val (Value.ref kd), .val (Value.int (128 : Int32)), .val (Value.int ii), s6] [(Value.int ii)]))
      refine own_aloadN X19 hx hby own_d12_59 rfl rfl ?_
      show own_G p e below s _ _ _ (T19.setTop (mkF m 60 #[.val (Value.ref a), .val (Value.ref kv), .val (Value.ref kl), .val (Value.ref kd), .val (Value.int (128 : Int32)), .val (Value.int ii), s6] [(Value.ref kv), (Value.int ii)]))
      refine own_alen X19 hx hby hZ e19 A19_kv own_d12_60 ?_
      show own_G p e below s _ _ _ (T19.setTop (mkF m 61 #[.val (Value.ref a), .val (Value.ref kv), .val (Value.ref kl), .val (Value.ref kd), .val (Value.int (128 : Int32)), .val (Value.int ii), s6] [(Value.int (64 : Int32)), (Value.int ii)]))
      refine own_icmp_ge X19 hx hby own_d12_61 (pc' := 121) (by decide) (by decide) (fun hb20 => ?_) (fun hb20 => by exfalso; rw [Int32.lt_iff_toInt_lt] at hb20; simp only [Int32.reduceToInt] at hb20; omega)
      show own_G p e below s _ _ _ (T19.setTop (mkF m 121 #[.val (Value.ref a), .val (Value.ref kv), .val (Value.ref kl), .val (Value.ref kd), .val (Value.int (128 : Int32)), .val (Value.int ii), s6] []))
      refine own_ret0 X19 hx hby hlk Bd.returns own_d12_121 (by decide) (by decide) ?_
      have hi64 : i = 64 := by omega
      subst hi64
      show own_rmG_Q Z a lim kv kl kd V D h0 n0 _ T19.heap _
      rw [e19]
      exact ⟨rfl, N19, K19, ad4, ad8, ad12, z4n, z8n, z12n, E19_a, F19_a_limit, F19_a_vertices, F19_a_lists, F19_a_depths, A19_ad4, A19_ad8, A19_ad12, g4n, g8n, g12n, ne4_a, ne8_a, ne12_a, ne8_ad4, ne12_ad4, ne12_ad8⟩
    | succ n ih =>
      intro T19 h19 lo19 ii i s6 X19 e19 N19 O19 K19 F19_a_limit F19_a_vertices F19_a_lists F19_a_depths E19_a A19_kv A19_kl A19_kd A19_ad8 A19_ad12 A19_ad4 hi hn h6
      show own_G p e below s _ _ _ (T19.setTop (mkF m 57 #[.val (Value.ref a), .val (Value.ref kv), .val (Value.ref kl), .val (Value.ref kd), .val (Value.int (128 : Int32)), .val (Value.int ii), s6] []))
      refine own_iload X19 hx hby own_d12_57 rfl ?_
      show own_G p e below s _ _ _ (T19.setTop (mkF m 59 #[.val (Value.ref a), .val (Value.ref kv), .val (Value.ref kl), .val (Value.ref kd), .val (Value.int (128 : Int32)), .val (Value.int ii), s6] [(Value.int ii)]))
      refine own_aloadN X19 hx hby own_d12_59 rfl rfl ?_
      show own_G p e below s _ _ _ (T19.setTop (mkF m 60 #[.val (Value.ref a), .val (Value.ref kv), .val (Value.ref kl), .val (Value.ref kd), .val (Value.int (128 : Int32)), .val (Value.int ii), s6] [(Value.ref kv), (Value.int ii)]))
      refine own_alen X19 hx hby hZ e19 A19_kv own_d12_60 ?_
      show own_G p e below s _ _ _ (T19.setTop (mkF m 61 #[.val (Value.ref a), .val (Value.ref kv), .val (Value.ref kl), .val (Value.ref kd), .val (Value.int (128 : Int32)), .val (Value.int ii), s6] [(Value.int (64 : Int32)), (Value.int ii)]))
      refine own_icmp_ge X19 hx hby own_d12_61 (pc' := 121) (by decide) (by decide) (fun hb21 => by exfalso; apply hb21; rw [Int32.lt_iff_toInt_lt]; simp only [Int32.reduceToInt]; omega) (fun hb21 => ?_)
      show own_G p e below s _ _ _ (T19.setTop (mkF m 64 #[.val (Value.ref a), .val (Value.ref kv), .val (Value.ref kl), .val (Value.ref kd), .val (Value.int (128 : Int32)), .val (Value.int ii), s6] []))
      refine own_aloadN X19 hx hby own_d12_64 rfl rfl ?_
      show own_G p e below s _ _ _ (T19.setTop (mkF m 65 #[.val (Value.ref a), .val (Value.ref kv), .val (Value.ref kl), .val (Value.ref kd), .val (Value.int (128 : Int32)), .val (Value.int ii), s6] [(Value.ref kv)]))
      refine own_iload X19 hx hby own_d12_65 rfl ?_
      show own_G p e below s _ _ _ (T19.setTop (mkF m 67 #[.val (Value.ref a), .val (Value.ref kv), .val (Value.ref kl), .val (Value.ref kd), .val (Value.int (128 : Int32)), .val (Value.int ii), s6] [(Value.int ii), (Value.ref kv)]))
      refine own_iaload X19 hx hby hZ e19 A19_kv (j := ii) (i := i) hi (by omega) own_d12_67 ?_
      show own_G p e below s _ _ _ (T19.setTop (mkF m 68 #[.val (Value.ref a), .val (Value.ref kv), .val (Value.ref kl), .val (Value.ref kd), .val (Value.int (128 : Int32)), .val (Value.int ii), s6] [(Value.int (V i))]))
      refine own_if_lt X19 hx hby own_d12_68 (pc' := 115) (by decide) (by decide) (fun hb22 => ?_) (fun hb22 => ?_)
      · show own_G p e below s _ _ _ (T19.setTop (mkF m 115 #[.val (Value.ref a), .val (Value.ref kv), .val (Value.ref kl), .val (Value.ref kd), .val (Value.int (128 : Int32)), .val (Value.int ii), s6] []))
        refine own_iinc X19 hx hby own_d12_115 rfl (l' := #[.val (Value.ref a), .val (Value.ref kv), .val (Value.ref kl), .val (Value.ref kd), .val (Value.int (128 : Int32)), .val (Value.int (ii + (1 : Int32))), s6]) rfl ?_
        show own_G p e below s _ _ _ (T19.setTop (mkF m 118 #[.val (Value.ref a), .val (Value.ref kv), .val (Value.ref kl), .val (Value.ref kd), .val (Value.int (128 : Int32)), .val (Value.int (ii + (1 : Int32))), s6] []))
        refine own_goto X19 hx hby own_d12_118 (pc' := 57) (by decide) (by decide) ?_
        show own_G p e below s _ _ _ (T19.setTop (mkF m 57 #[.val (Value.ref a), .val (Value.ref kv), .val (Value.ref kl), .val (Value.ref kd), .val (Value.int (128 : Int32)), .val (Value.int (ii + (1 : Int32))), s6] []))
        exact ih _ _ _ _ (i + 1) _ X19 e19 N19 O19 K19 F19_a_limit F19_a_vertices F19_a_lists F19_a_depths E19_a A19_kv A19_kl A19_kd A19_ad8 (own_Ar.fn A19_ad12 (fun j _ => by rw [show own_gd V D (i + 1) = own_gd V D i from if_pos hb22])) (own_Ar.fn A19_ad4 (fun j _ => by rw [show own_gv V (i + 1) = own_gv V i from if_pos hb22])) (own_inc hi (by omega)) (by omega) h6
      · show own_G p e below s _ _ _ (T19.setTop (mkF m 71 #[.val (Value.ref a), .val (Value.ref kv), .val (Value.ref kl), .val (Value.ref kd), .val (Value.int (128 : Int32)), .val (Value.int ii), s6] []))
        refine own_aloadN X19 hx hby own_d12_71 rfl rfl ?_
        show own_G p e below s _ _ _ (T19.setTop (mkF m 72 #[.val (Value.ref a), .val (Value.ref kv), .val (Value.ref kl), .val (Value.ref kd), .val (Value.int (128 : Int32)), .val (Value.int ii), s6] [(Value.ref kv)]))
        refine own_iload X19 hx hby own_d12_72 rfl ?_
        show own_G p e below s _ _ _ (T19.setTop (mkF m 74 #[.val (Value.ref a), .val (Value.ref kv), .val (Value.ref kl), .val (Value.ref kd), .val (Value.int (128 : Int32)), .val (Value.int ii), s6] [(Value.int ii), (Value.ref kv)]))
        refine own_iaload X19 hx hby hZ e19 A19_kv (j := ii) (i := i) hi (by omega) own_d12_74 ?_
        show own_G p e below s _ _ _ (T19.setTop (mkF m 75 #[.val (Value.ref a), .val (Value.ref kv), .val (Value.ref kl), .val (Value.ref kd), .val (Value.int (128 : Int32)), .val (Value.int ii), s6] [(Value.int (V i))]))
        refine own_iload X19 hx hby own_d12_75 rfl ?_
        show own_G p e below s _ _ _ (T19.setTop (mkF m 77 #[.val (Value.ref a), .val (Value.ref kv), .val (Value.ref kl), .val (Value.ref kd), .val (Value.int (128 : Int32)), .val (Value.int ii), s6] [(Value.int (128 : Int32)), (Value.int (V i))]))
        refine own_iconst X19 hx hby own_d12_77 ?_
        show own_G p e below s _ _ _ (T19.setTop (mkF m 78 #[.val (Value.ref a), .val (Value.ref kv), .val (Value.ref kl), .val (Value.ref kd), .val (Value.int (128 : Int32)), .val (Value.int ii), s6] [(Value.int (1 : Int32)), (Value.int (128 : Int32)), (Value.int (V i))]))
        refine own_isub X19 hx hby own_d12_78 ?_
        show own_G p e below s _ _ _ (T19.setTop (mkF m 79 #[.val (Value.ref a), .val (Value.ref kv), .val (Value.ref kl), .val (Value.ref kd), .val (Value.int (128 : Int32)), .val (Value.int ii), s6] [(Value.int ((128 : Int32) - (1 : Int32))), (Value.int (V i))]))
        refine own_iand X19 hx hby own_d12_79 ?_
        show own_G p e below s _ _ _ (T19.setTop (mkF m 80 #[.val (Value.ref a), .val (Value.ref kv), .val (Value.ref kl), .val (Value.ref kd), .val (Value.int (128 : Int32)), .val (Value.int ii), s6] [(Value.int ((V i) &&& ((128 : Int32) - (1 : Int32))))]))
        refine own_istore X19 hx hby own_d12_80 (l' := #[.val (Value.ref a), .val (Value.ref kv), .val (Value.ref kl), .val (Value.ref kd), .val (Value.int (128 : Int32)), .val (Value.int ii), .val (Value.int ((V i) &&& ((128 : Int32) - (1 : Int32))))]) (XS.store1 (o := s6) rfl h6 rfl) ?_
        show own_G p e below s _ _ _ (T19.setTop (mkF m 82 #[.val (Value.ref a), .val (Value.ref kv), .val (Value.ref kl), .val (Value.ref kd), .val (Value.int (128 : Int32)), .val (Value.int ii), .val (Value.int ((V i) &&& ((128 : Int32) - (1 : Int32))))] []))
        refine own_aloadN X19 hx hby own_d12_82 rfl rfl ?_
        show own_G p e below s _ _ _ (T19.setTop (mkF m 83 #[.val (Value.ref a), .val (Value.ref kv), .val (Value.ref kl), .val (Value.ref kd), .val (Value.int (128 : Int32)), .val (Value.int ii), .val (Value.int ((V i) &&& ((128 : Int32) - (1 : Int32))))] [(Value.ref a)]))
        obtain ⟨T23, X23, e23, st23⟩ := getF X19 hx hZ hown (host := "") (Or.inl (own_w33 hw)) Via.refl e19 F19_a_vertices (g := (mkF m 83 #[.val (Value.ref a), .val (Value.ref kv), .val (Value.ref kl), .val (Value.ref kd), .val (Value.int (128 : Int32)), .val (Value.int ii), .val (Value.int ((V i) &&& ((128 : Int32) - (1 : Int32))))] [(Value.ref a)])) rfl rfl (hb hby own_d12_83)
        refine own_st st23 ?_
        show own_G p e below s _ _ _ (T23.setTop (mkF m 86 #[.val (Value.ref a), .val (Value.ref kv), .val (Value.ref kl), .val (Value.ref kd), .val (Value.int (128 : Int32)), .val (Value.int ii), .val (Value.int ((V i) &&& ((128 : Int32) - (1 : Int32))))] [(Value.ref ad4)]))
        refine own_iload X23 hx hby own_d12_86 rfl ?_
        show own_G p e below s _ _ _ (T23.setTop (mkF m 88 #[.val (Value.ref a), .val (Value.ref kv), .val (Value.ref kl), .val (Value.ref kd), .val (Value.int (128 : Int32)), .val (Value.int ii), .val (Value.int ((V i) &&& ((128 : Int32) - (1 : Int32))))] [(Value.int ((V i) &&& ((128 : Int32) - (1 : Int32)))), (Value.ref ad4)]))
        refine own_aloadN X23 hx hby own_d12_88 rfl rfl ?_
        show own_G p e below s _ _ _ (T23.setTop (mkF m 89 #[.val (Value.ref a), .val (Value.ref kv), .val (Value.ref kl), .val (Value.ref kd), .val (Value.int (128 : Int32)), .val (Value.int ii), .val (Value.int ((V i) &&& ((128 : Int32) - (1 : Int32))))] [(Value.ref kv), (Value.int ((V i) &&& ((128 : Int32) - (1 : Int32)))), (Value.ref ad4)]))
        refine own_iload X23 hx hby own_d12_89 rfl ?_
        show own_G p e below s _ _ _ (T23.setTop (mkF m 91 #[.val (Value.ref a), .val (Value.ref kv), .val (Value.ref kl), .val (Value.ref kd), .val (Value.int (128 : Int32)), .val (Value.int ii), .val (Value.int ((V i) &&& ((128 : Int32) - (1 : Int32))))] [(Value.int ii), (Value.ref kv), (Value.int ((V i) &&& ((128 : Int32) - (1 : Int32)))), (Value.ref ad4)]))
        refine own_iaload X23 hx hby hZ e23 A19_kv (j := ii) (i := i) hi (by omega) own_d12_91 ?_
        show own_G p e below s _ _ _ (T23.setTop (mkF m 92 #[.val (Value.ref a), .val (Value.ref kv), .val (Value.ref kl), .val (Value.ref kd), .val (Value.int (128 : Int32)), .val (Value.int ii), .val (Value.int ((V i) &&& ((128 : Int32) - (1 : Int32))))] [(Value.int (V i)), (Value.int ((V i) &&& ((128 : Int32) - (1 : Int32)))), (Value.ref ad4)]))
        obtain ⟨T24, h24, X24, e24, W24, A24, st24⟩ := own_iastore X23 hx hby hZ e23 A19_ad4 (j := ((V i) &&& ((128 : Int32) - (1 : Int32)))) (i := (own_ix 128 (V i))) (own_and_ix (n := 128) (by unfold own_pw; omega) (V i)).1 (own_and_ix (n := 128) (by unfold own_pw; omega) (V i)).2 (x := (V i)) own_d12_92 (Ls := #[.val (Value.ref a), .val (Value.ref kv), .val (Value.ref kl), .val (Value.ref kd), .val (Value.int (128 : Int32)), .val (Value.int ii), .val (Value.int ((V i) &&& ((128 : Int32) - (1 : Int32))))]) (st := [])
        have F25_a_limit := Fld.other W24 F19_a_limit (Or.inl ne4_a)
        have F25_a_vertices := Fld.other W24 F19_a_vertices (Or.inl ne4_a)
        have F25_a_lists := Fld.other W24 F19_a_lists (Or.inl ne4_a)
        have F25_a_depths := Fld.other W24 F19_a_depths (Or.inl ne4_a)
        have E25_a := Exa.wr W24 E19_a
        have A25_kv := own_Ar.other A19_kv W24 ne4_kv
        have A25_kl := own_Ar.other A19_kl W24 ne4_kl
        have A25_kd := own_Ar.other A19_kd W24 ne4_kd
        have A25_ad8 := own_Ar.other A19_ad8 W24 (Ne.symm ne8_ad4)
        have A25_ad12 := own_Ar.other A19_ad12 W24 (Ne.symm ne12_ad4)
        have O25 := Old.wr O19 W24 g4n
        have N24 := Fr.snoc X24 N19 g4n
        have K24 := Keep.wr K19 W24 (Or.inr z4n)
        have A24n : own_Ar Z h24 ad4 .int 128 (fun j => Value.int ((own_up (own_gv V i) (own_ix 128 (V i)) (V i)) j)) := own_Ar.fn A24 (by intro j _; simp only [own_set, own_up]; split <;> rfl)
        refine own_st st24 ?_
        show own_G p e below s _ _ _ (T24.setTop (mkF m 93 #[.val (Value.ref a), .val (Value.ref kv), .val (Value.ref kl), .val (Value.ref kd), .val (Value.int (128 : Int32)), .val (Value.int ii), .val (Value.int ((V i) &&& ((128 : Int32) - (1 : Int32))))] []))
        refine own_aloadN X24 hx hby own_d12_93 rfl rfl ?_
        show own_G p e below s _ _ _ (T24.setTop (mkF m 94 #[.val (Value.ref a), .val (Value.ref kv), .val (Value.ref kl), .val (Value.ref kd), .val (Value.int (128 : Int32)), .val (Value.int ii), .val (Value.int ((V i) &&& ((128 : Int32) - (1 : Int32))))] [(Value.ref a)]))
        obtain ⟨T26, X26, e26, st26⟩ := getF X24 hx hZ hown (host := "") (Or.inl (own_w37 hw)) Via.refl e24 F25_a_lists (g := (mkF m 94 #[.val (Value.ref a), .val (Value.ref kv), .val (Value.ref kl), .val (Value.ref kd), .val (Value.int (128 : Int32)), .val (Value.int ii), .val (Value.int ((V i) &&& ((128 : Int32) - (1 : Int32))))] [(Value.ref a)])) rfl rfl (hb hby own_d12_94)
        refine own_st st26 ?_
        show own_G p e below s _ _ _ (T26.setTop (mkF m 97 #[.val (Value.ref a), .val (Value.ref kv), .val (Value.ref kl), .val (Value.ref kd), .val (Value.int (128 : Int32)), .val (Value.int ii), .val (Value.int ((V i) &&& ((128 : Int32) - (1 : Int32))))] [(Value.ref ad8)]))
        refine own_iload X26 hx hby own_d12_97 rfl ?_
        show own_G p e below s _ _ _ (T26.setTop (mkF m 99 #[.val (Value.ref a), .val (Value.ref kv), .val (Value.ref kl), .val (Value.ref kd), .val (Value.int (128 : Int32)), .val (Value.int ii), .val (Value.int ((V i) &&& ((128 : Int32) - (1 : Int32))))] [(Value.int ((V i) &&& ((128 : Int32) - (1 : Int32)))), (Value.ref ad8)]))
        refine own_aloadN X26 hx hby own_d12_99 rfl rfl ?_
        show own_G p e below s _ _ _ (T26.setTop (mkF m 100 #[.val (Value.ref a), .val (Value.ref kv), .val (Value.ref kl), .val (Value.ref kd), .val (Value.int (128 : Int32)), .val (Value.int ii), .val (Value.int ((V i) &&& ((128 : Int32) - (1 : Int32))))] [(Value.ref kl), (Value.int ((V i) &&& ((128 : Int32) - (1 : Int32)))), (Value.ref ad8)]))
        refine own_iload X26 hx hby own_d12_100 rfl ?_
        show own_G p e below s _ _ _ (T26.setTop (mkF m 102 #[.val (Value.ref a), .val (Value.ref kv), .val (Value.ref kl), .val (Value.ref kd), .val (Value.int (128 : Int32)), .val (Value.int ii), .val (Value.int ((V i) &&& ((128 : Int32) - (1 : Int32))))] [(Value.int ii), (Value.ref kl), (Value.int ((V i) &&& ((128 : Int32) - (1 : Int32)))), (Value.ref ad8)]))
        refine own_aaload X26 hx hby hZ e26 A25_kl rfl (j := ii) (i := i) hi (by omega) own_d12_102 ?_
        show own_G p e below s _ _ _ (T26.setTop (mkF m 103 #[.val (Value.ref a), .val (Value.ref kv), .val (Value.ref kl), .val (Value.ref kd), .val (Value.int (128 : Int32)), .val (Value.int ii), .val (Value.int ((V i) &&& ((128 : Int32) - (1 : Int32))))] [Value.null, (Value.int ((V i) &&& ((128 : Int32) - (1 : Int32)))), (Value.ref ad8)]))
        obtain ⟨T27, h27, X27, e27, W27, A27, st27⟩ := own_aastore X26 hx hby hZ e26 A25_ad8 rfl (j := ((V i) &&& ((128 : Int32) - (1 : Int32)))) (i := (own_ix 128 (V i))) (own_and_ix (n := 128) (by unfold own_pw; omega) (V i)).1 (own_and_ix (n := 128) (by unfold own_pw; omega) (V i)).2 (Or.inl rfl) own_d12_103 (Ls := #[.val (Value.ref a), .val (Value.ref kv), .val (Value.ref kl), .val (Value.ref kd), .val (Value.int (128 : Int32)), .val (Value.int ii), .val (Value.int ((V i) &&& ((128 : Int32) - (1 : Int32))))]) (st := [])
        have F28_a_limit := Fld.other W27 F25_a_limit (Or.inl ne8_a)
        have F28_a_vertices := Fld.other W27 F25_a_vertices (Or.inl ne8_a)
        have F28_a_lists := Fld.other W27 F25_a_lists (Or.inl ne8_a)
        have F28_a_depths := Fld.other W27 F25_a_depths (Or.inl ne8_a)
        have E28_a := Exa.wr W27 E25_a
        have A28_kv := own_Ar.other A25_kv W27 ne8_kv
        have A28_kl := own_Ar.other A25_kl W27 ne8_kl
        have A28_kd := own_Ar.other A25_kd W27 ne8_kd
        have A28_ad12 := own_Ar.other A25_ad12 W27 (Ne.symm ne12_ad8)
        have A28_ad4 := own_Ar.other A24n W27 ne8_ad4
        have O28 := Old.wr O25 W27 g8n
        have N27 := Fr.snoc X27 N24 g8n
        have K27 := Keep.wr K24 W27 (Or.inr z8n)
        have A27n : own_Ar Z h27 ad8 (.array .int) 128 (fun _ => Value.null) := own_Ar.fn A27 (by intro j _; simp only [own_set]; split <;> rfl)
        refine own_st st27 ?_
        show own_G p e below s _ _ _ (T27.setTop (mkF m 104 #[.val (Value.ref a), .val (Value.ref kv), .val (Value.ref kl), .val (Value.ref kd), .val (Value.int (128 : Int32)), .val (Value.int ii), .val (Value.int ((V i) &&& ((128 : Int32) - (1 : Int32))))] []))
        refine own_aloadN X27 hx hby own_d12_104 rfl rfl ?_
        show own_G p e below s _ _ _ (T27.setTop (mkF m 105 #[.val (Value.ref a), .val (Value.ref kv), .val (Value.ref kl), .val (Value.ref kd), .val (Value.int (128 : Int32)), .val (Value.int ii), .val (Value.int ((V i) &&& ((128 : Int32) - (1 : Int32))))] [(Value.ref a)]))
        obtain ⟨T29, X29, e29, st29⟩ := getF X27 hx hZ hown (host := "") (Or.inl (own_w39 hw)) Via.refl e27 F28_a_depths (g := (mkF m 105 #[.val (Value.ref a), .val (Value.ref kv), .val (Value.ref kl), .val (Value.ref kd), .val (Value.int (128 : Int32)), .val (Value.int ii), .val (Value.int ((V i) &&& ((128 : Int32) - (1 : Int32))))] [(Value.ref a)])) rfl rfl (hb hby own_d12_105)
        refine own_st st29 ?_
        show own_G p e below s _ _ _ (T29.setTop (mkF m 108 #[.val (Value.ref a), .val (Value.ref kv), .val (Value.ref kl), .val (Value.ref kd), .val (Value.int (128 : Int32)), .val (Value.int ii), .val (Value.int ((V i) &&& ((128 : Int32) - (1 : Int32))))] [(Value.ref ad12)]))
        refine own_iload X29 hx hby own_d12_108 rfl ?_
        show own_G p e below s _ _ _ (T29.setTop (mkF m 110 #[.val (Value.ref a), .val (Value.ref kv), .val (Value.ref kl), .val (Value.ref kd), .val (Value.int (128 : Int32)), .val (Value.int ii), .val (Value.int ((V i) &&& ((128 : Int32) - (1 : Int32))))] [(Value.int ((V i) &&& ((128 : Int32) - (1 : Int32)))), (Value.ref ad12)]))
        refine own_aloadN X29 hx hby own_d12_110 rfl rfl ?_
        show own_G p e below s _ _ _ (T29.setTop (mkF m 111 #[.val (Value.ref a), .val (Value.ref kv), .val (Value.ref kl), .val (Value.ref kd), .val (Value.int (128 : Int32)), .val (Value.int ii), .val (Value.int ((V i) &&& ((128 : Int32) - (1 : Int32))))] [(Value.ref kd), (Value.int ((V i) &&& ((128 : Int32) - (1 : Int32)))), (Value.ref ad12)]))
        refine own_iload X29 hx hby own_d12_111 rfl ?_
        show own_G p e below s _ _ _ (T29.setTop (mkF m 113 #[.val (Value.ref a), .val (Value.ref kv), .val (Value.ref kl), .val (Value.ref kd), .val (Value.int (128 : Int32)), .val (Value.int ii), .val (Value.int ((V i) &&& ((128 : Int32) - (1 : Int32))))] [(Value.int ii), (Value.ref kd), (Value.int ((V i) &&& ((128 : Int32) - (1 : Int32)))), (Value.ref ad12)]))
        refine own_iaload X29 hx hby hZ e29 A28_kd (j := ii) (i := i) hi (by omega) own_d12_113 ?_
        show own_G p e below s _ _ _ (T29.setTop (mkF m 114 #[.val (Value.ref a), .val (Value.ref kv), .val (Value.ref kl), .val (Value.ref kd), .val (Value.int (128 : Int32)), .val (Value.int ii), .val (Value.int ((V i) &&& ((128 : Int32) - (1 : Int32))))] [(Value.int (D i)), (Value.int ((V i) &&& ((128 : Int32) - (1 : Int32)))), (Value.ref ad12)]))
        obtain ⟨T30, h30, X30, e30, W30, A30, st30⟩ := own_iastore X29 hx hby hZ e29 A28_ad12 (j := ((V i) &&& ((128 : Int32) - (1 : Int32)))) (i := (own_ix 128 (V i))) (own_and_ix (n := 128) (by unfold own_pw; omega) (V i)).1 (own_and_ix (n := 128) (by unfold own_pw; omega) (V i)).2 (x := (D i)) own_d12_114 (Ls := #[.val (Value.ref a), .val (Value.ref kv), .val (Value.ref kl), .val (Value.ref kd), .val (Value.int (128 : Int32)), .val (Value.int ii), .val (Value.int ((V i) &&& ((128 : Int32) - (1 : Int32))))]) (st := [])
        have F31_a_limit := Fld.other W30 F28_a_limit (Or.inl ne12_a)
        have F31_a_vertices := Fld.other W30 F28_a_vertices (Or.inl ne12_a)
        have F31_a_lists := Fld.other W30 F28_a_lists (Or.inl ne12_a)
        have F31_a_depths := Fld.other W30 F28_a_depths (Or.inl ne12_a)
        have E31_a := Exa.wr W30 E28_a
        have A31_kv := own_Ar.other A28_kv W30 ne12_kv
        have A31_kl := own_Ar.other A28_kl W30 ne12_kl
        have A31_kd := own_Ar.other A28_kd W30 ne12_kd
        have A31_ad8 := own_Ar.other A27n W30 ne12_ad8
        have A31_ad4 := own_Ar.other A28_ad4 W30 ne12_ad4
        have O31 := Old.wr O28 W30 g12n
        have N30 := Fr.snoc X30 N27 g12n
        have K30 := Keep.wr K27 W30 (Or.inr z12n)
        have A30n : own_Ar Z h30 ad12 .int 128 (fun j => Value.int ((own_up (own_gd V D i) (own_ix 128 (V i)) (D i)) j)) := own_Ar.fn A30 (by intro j _; simp only [own_set, own_up]; split <;> rfl)
        refine own_st st30 ?_
        show own_G p e below s _ _ _ (T30.setTop (mkF m 115 #[.val (Value.ref a), .val (Value.ref kv), .val (Value.ref kl), .val (Value.ref kd), .val (Value.int (128 : Int32)), .val (Value.int ii), .val (Value.int ((V i) &&& ((128 : Int32) - (1 : Int32))))] []))
        refine own_iinc X30 hx hby own_d12_115 rfl (l' := #[.val (Value.ref a), .val (Value.ref kv), .val (Value.ref kl), .val (Value.ref kd), .val (Value.int (128 : Int32)), .val (Value.int (ii + (1 : Int32))), .val (Value.int ((V i) &&& ((128 : Int32) - (1 : Int32))))]) rfl ?_
        show own_G p e below s _ _ _ (T30.setTop (mkF m 118 #[.val (Value.ref a), .val (Value.ref kv), .val (Value.ref kl), .val (Value.ref kd), .val (Value.int (128 : Int32)), .val (Value.int (ii + (1 : Int32))), .val (Value.int ((V i) &&& ((128 : Int32) - (1 : Int32))))] []))
        refine own_goto X30 hx hby own_d12_118 (pc' := 57) (by decide) (by decide) ?_
        show own_G p e below s _ _ _ (T30.setTop (mkF m 57 #[.val (Value.ref a), .val (Value.ref kv), .val (Value.ref kl), .val (Value.ref kd), .val (Value.int (128 : Int32)), .val (Value.int (ii + (1 : Int32))), .val (Value.int ((V i) &&& ((128 : Int32) - (1 : Int32))))] []))
        exact ih _ _ _ _ (i + 1) _ X30 e30 N30 O31 K30 F31_a_limit F31_a_vertices F31_a_lists F31_a_depths E31_a A31_kv A31_kl A31_kd A31_ad8 (own_Ar.fn A30n (fun j _ => by rw [show own_gd V D (i + 1) = own_up (own_gd V D i) (own_ix 128 (V i)) (D i) from if_neg hb22])) (own_Ar.fn A31_ad4 (fun j _ => by rw [show own_gv V (i + 1) = own_up (own_gv V i) (own_ix 128 (V i)) (V i) from if_neg hb22])) (own_inc hi (by omega)) (by omega) (One.val rfl)
  exact loop 64 _ _ _ _ 0 _ X17 rfl N17 O18 K17 F18_a_limit F18_a_vertices F18_a_lists F18_a_depths E18_a A18_kv A18_kl A18_kd A18_ad8 (show own_Ar Z T17.heap ad12 .int 128 (fun j => Value.int (own_gd V D 0 j)) from A18_ad12) (show own_Ar Z T17.heap ad4 .int 128 (fun j => Value.int (own_gv V 0 j)) from Aq17) (by decide) (by omega) One.u
def own_rmKN_Q (Z : State) (a : Addr) (x1 : Int32) (x3 : Int32) (lim : Int32) (kv kl kd : Addr) (n : Nat) (V D : Nat → Int32) (h0 : Heap) (n0 : Nat) : Option Value → Heap → List Loc → Prop := fun v h L => v = none ∧ Fr n0 L ∧ Keep h0 h [a, kv, kl, kd] ∧ ∃ kv kl kd n' V' D', own_pw n' ∧ (lim.toInt = (n' : Int) ∨ (n' = 64 ∧ lim.toInt = (128 : Nat))) ∧ own_Kp lim n V D x1 (own_dn n V D x1 x3) n' V' D' ∧ Exa Z h a "com/example/tuck/tuck/ListWindow" ∧ Fld Z h a "com/example/tuck/tuck/ListWindow" "limit" "I" (.int lim) ∧ Fld Z h a "com/example/tuck/tuck/ListWindow" "vertices" "[I" (.ref kv) ∧ Fld Z h a "com/example/tuck/tuck/ListWindow" "lists" "[[I" (.ref kl) ∧ Fld Z h a "com/example/tuck/tuck/ListWindow" "depths" "[I" (.ref kd) ∧ own_Ar Z h kv .int n' (fun j => Value.int (V' j)) ∧ own_Ar Z h kl (.array .int) n' (fun _ => Value.null) ∧ own_Ar Z h kd .int n' (fun j => Value.int (D' j)) ∧ n0 ≤ kv ∧ n0 ≤ kl ∧ n0 ≤ kd ∧ a ≠ kv ∧ a ≠ kl ∧ a ≠ kd ∧ kv ≠ kl ∧ kv ≠ kd ∧ kl ≠ kd
theorem own_rmKN_ef (m : MethodId) (a : Addr) (x1 : Int32) (x3 : Int32)  : entryFrame m #[(Value.ref a), (Value.int x1), Value.null, (Value.int x3)] 6 = mkF m 0 #[.val (Value.ref a), .val (Value.int x1), .val Value.null, .val (Value.int x3), .unset, .unset] [] := by first | (simp [entryFrame, mkF, argsToLocals, Value.category]; done) | rfl
set_option maxRecDepth 65536 in
set_option maxHeartbeats 40000000 in
theorem own_rmKN (l : Launch) (Z : State) (a0 : Array Value) (hw : ∀ d ∈ tables_1, d.before a0 Z = true) (ws : List Jvm.Cond) (a : Addr) (x1 : Int32) (x3 : Int32) (lim : Int32) (kv kl kd : Addr) (n : Nat) (V D : Nat → Int32) (h0 : Heap) (n0 : Nat) (O0 : Old Z n0 h0) (E_a : Exa Z h0 a "com/example/tuck/tuck/ListWindow") (F_lim : Fld Z h0 a "com/example/tuck/tuck/ListWindow" "limit" "I" (.int lim)) (F_v : Fld Z h0 a "com/example/tuck/tuck/ListWindow" "vertices" "[I" (.ref kv)) (F_l : Fld Z h0 a "com/example/tuck/tuck/ListWindow" "lists" "[[I" (.ref kl)) (F_d : Fld Z h0 a "com/example/tuck/tuck/ListWindow" "depths" "[I" (.ref kd)) (A_v : own_Ar Z h0 kv .int n (fun j => Value.int (V j))) (A_l : own_Ar Z h0 kl (.array .int) n (fun _ => Value.null)) (A_d : own_Ar Z h0 kd .int n (fun j => Value.int (D j))) (ga : n0 ≤ a) (gv : n0 ≤ kv) (gl : n0 ≤ kl) (gd : n0 ≤ kd) (nav : a ≠ kv) (nal : a ≠ kl) (nad : a ≠ kd) (nvl : kv ≠ kl) (nvd : kv ≠ kd) (nld : kl ≠ kd) (hpw : own_pw n) (hl : lim.toInt = (n : Int) ∨ (n = 64 ∧ lim.toInt = (128 : Nat))) (hI : own_In n V) (hv0 : ¬ x1 < (0 : Int32)) (hneg : (V (own_ix n x1)).toInt < 0) :
    MetFree l (⟨"com/example/tuck/tuck/ListWindow", "keep", "(I[II)V"⟩ : MethodName) (head1 (Jvm.Cond.code (⟨"com/example/tuck/tuck/ListWindow", "keep", "(I[II)V"⟩ : MethodName) prog_53_method_3_code 6 none :: ws) ({ frames := 1, cells := 0, slots := 0, locals := 14 } : Room)) (fun aa_ U => aa_ = #[(Value.ref a), (Value.int x1), Value.null, (Value.int x3)] ∧ Z.Warmed39 U.vm ∧ U.heap = h0) (fun _ _ _ _ _ => True) (fun _ UU_ oo_ UX_ => ∃ vv_ LL_, oo_ = .returned vv_ ∧ (own_rmKN_Q Z a x1 x3 lim kv kl kd n V D h0 n0) vv_ UX_.heap LL_ ∧ FrameEnd UU_ oo_ UX_ LL_ ({ frames := 1, cells := 0, slots := 0, locals := 14 } : Room).cells ({ frames := 1, cells := 0, slots := 0, locals := 14 } : Room).slots) := by
  refine MetFree.of_bodySF (plainFor_of_name own_pn2) hisR ?_
  intro p e s m args below meth c s₁ Bd hml0 hP hK
  obtain ⟨rfl, hZ, hh⟩ := hP
  have hx := Bd.exec
  have hby := Bd.bytes
  have hml : c.maxLocals = 6 := hml0
  have hown : s.vm.findClass "com/example/tuck/tuck/ListWindow" = some m.cls := findClass_of_methodNamed Bd.named
  have hnm := (name_of_methodNamed Bd.named Bd.method).1
  have hlk : meth.locks = false := BodyLoose.notSynchronized Bd
  have X0 : Stand p l e ({ frames := 1, cells := 0, slots := 0, locals := 14 } : Room) s m #[(Value.ref a), (Value.int x1), Value.null, (Value.int x3)] below meth c s₁ [] 0 0 := Stand.of_body Bd
  have e0 : s₁.heap = h0 := by rw [← hh, Bd.state]; rfl
  have N0 := Fr.nil n0
  show own_G p e below s (own_rmKN_Q Z a x1 x3 lim kv kl kd n V D h0 n0) ({ frames := 1, cells := 0, slots := 0, locals := 14 } : Room).cells ({ frames := 1, cells := 0, slots := 0, locals := 14 } : Room).slots (s₁.setTop (entryFrame m #[(Value.ref a), (Value.int x1), Value.null, (Value.int x3)] 6))
  refine own_cast (own_rmKN_ef m a x1 x3 ) ?_
  show own_G p e below s _ _ _ (s₁.setTop (mkF m 0 #[.val (Value.ref a), .val (Value.int x1), .val Value.null, .val (Value.int x3), .unset, .unset] []))
  refine own_iloadN X0 hx hby own_d9_0 rfl ?_
  show own_G p e below s _ _ _ (s₁.setTop (mkF m 1 #[.val (Value.ref a), .val (Value.int x1), .val Value.null, .val (Value.int x3), .unset, .unset] [(Value.int x3)]))
  refine own_if_ne X0 hx hby own_d9_1 (pc' := 8) (by decide) (by decide) (fun hb1 => ?_) (fun hb1 => ?_)
  · show own_G p e below s _ _ _ (s₁.setTop (mkF m 8 #[.val (Value.ref a), .val (Value.int x1), .val Value.null, .val (Value.int x3), .unset, .unset] []))
    refine own_aloadN X0 hx hby own_d9_8 rfl rfl ?_
    show own_G p e below s _ _ _ (s₁.setTop (mkF m 9 #[.val (Value.ref a), .val (Value.int x1), .val Value.null, .val (Value.int x3), .unset, .unset] [(Value.ref a)]))
    refine own_iloadN X0 hx hby own_d9_9 rfl ?_
    show own_G p e below s _ _ _ (s₁.setTop (mkF m 10 #[.val (Value.ref a), .val (Value.int x1), .val Value.null, .val (Value.int x3), .unset, .unset] [(Value.int x1), (Value.ref a)]))
    refine own_iloadN X0 hx hby own_d9_10 rfl ?_
    show own_G p e below s _ _ _ (s₁.setTop (mkF m 11 #[.val (Value.ref a), .val (Value.int x1), .val Value.null, .val (Value.int x3), .unset, .unset] [(Value.int x3), (Value.int x1), (Value.ref a)]))
    refine own_isub X0 hx hby own_d9_11 ?_
    show own_G p e below s _ _ _ (s₁.setTop (mkF m 12 #[.val (Value.ref a), .val (Value.int x1), .val Value.null, .val (Value.int x3), .unset, .unset] [(Value.int (x1 - x3)), (Value.ref a)]))
    obtain ⟨cq2, kq2, q2a, q2b, q2c⟩ := isOf (T := s₁) hZ e0 E_a
    obtain ⟨_, _, ⟨T2, L2, k2, n2⟩, -, X2, ⟨Lc2, hQ2, l2, y2, z2⟩, st2⟩ := X0.virtualBack hx (y := (⟨"com/example/tuck/tuck/ListWindow", "depth", "(I)I"⟩ : MethodName)) (z := (⟨"com/example/tuck/tuck/ListWindow", "depth", "(I)I"⟩ : MethodName)) hown (mvT hZ (own_w55 hw)) (mvT hZ (own_w51 hw)) (notFace_of_selects (args := #[]) (mvT hZ (own_w53 hw))) (mvT hZ (own_w53 hw)) (mvT hZ (own_w52 hw)) (by decide) (backOf (W := 0) (own_rmD l Z a0 hw [] a (x1 - x3) lim kv kl kd n V D h0 n0 O0 E_a F_lim F_v F_l F_d A_v A_l A_d ga gv gl gd nav nal nad nvl nvd nld hpw) hZ (own_w54 hw) (own_w4 hw) (by decide) (by decide)) q2a q2c (g := (mkF m 12 #[.val (Value.ref a), .val (Value.int x1), .val Value.null, .val (Value.int x3), .unset, .unset] [(Value.int (x1 - x3)), (Value.ref a)])) rfl (by rw [hml]; rfl) (Steps.refl _) (argsL := [(Value.int (x1 - x3))]) (rest := []) (lenOf own_pd0 rfl) rfl (by show 2 * 0 + _ ≤ _; exact Nat.le_of_eq rfl) (hb hby own_d9_12) (fun _ _ => ⟨rfl, e0, (by decide : (0 : Nat) + 0 ≤ _), (by decide : (0 : Nat) + 0 ≤ _)⟩)
    dsimp only [Pt.U, Pt.locs, Pt.cells, Pt.slots] at X2 l2 y2 z2 st2 hQ2
    subst l2 y2 z2
    obtain ⟨rfl, e2, Nq2⟩ := hQ2
    have N2 := Fr.app N0 Nq2
    refine own_tr st2 ?_
    show own_G p e below s _ _ _ (T2.setTop (mkF m 15 #[.val (Value.ref a), .val (Value.int x1), .val Value.null, .val (Value.int x3), .unset, .unset] [(Value.int (own_dep n V D (x1 - x3)))]))
    refine own_iconst X2 hx hby own_d9_15 ?_
    show own_G p e below s _ _ _ (T2.setTop (mkF m 16 #[.val (Value.ref a), .val (Value.int x1), .val Value.null, .val (Value.int x3), .unset, .unset] [(Value.int (1 : Int32)), (Value.int (own_dep n V D (x1 - x3)))]))
    refine own_iadd X2 hx hby own_d9_16 ?_
    show own_G p e below s _ _ _ (T2.setTop (mkF m 17 #[.val (Value.ref a), .val (Value.int x1), .val Value.null, .val (Value.int x3), .unset, .unset] [(Value.int ((own_dep n V D (x1 - x3)) + (1 : Int32)))]))
    rw [show ((own_dep n V D (x1 - x3)) + (1 : Int32)) = (own_dn n V D x1 x3) from (if_neg hb1).symm]
    refine own_istore X2 hx hby own_d9_17 (l' := #[.val (Value.ref a), .val (Value.int x1), .val Value.null, .val (Value.int x3), .val (Value.int (own_dn n V D x1 x3)), .unset]) rfl ?_
    show own_G p e below s _ _ _ (T2.setTop (mkF m 19 #[.val (Value.ref a), .val (Value.int x1), .val Value.null, .val (Value.int x3), .val (Value.int (own_dn n V D x1 x3)), .unset] []))
    refine own_iloadN X2 hx hby own_d9_19 rfl ?_
    show own_G p e below s _ _ _ (T2.setTop (mkF m 20 #[.val (Value.ref a), .val (Value.int x1), .val Value.null, .val (Value.int x3), .val (Value.int (own_dn n V D x1 x3)), .unset] [(Value.int x1)]))
    refine own_aloadN X2 hx hby own_d9_20 rfl rfl ?_
    show own_G p e below s _ _ _ (T2.setTop (mkF m 21 #[.val (Value.ref a), .val (Value.int x1), .val Value.null, .val (Value.int x3), .val (Value.int (own_dn n V D x1 x3)), .unset] [(Value.ref a), (Value.int x1)]))
    obtain ⟨T3, X3, e3, st3⟩ := getF X2 hx hZ hown (host := "") (Or.inl (own_w33 hw)) Via.refl e2 F_v (g := (mkF m 21 #[.val (Value.ref a), .val (Value.int x1), .val Value.null, .val (Value.int x3), .val (Value.int (own_dn n V D x1 x3)), .unset] [(Value.ref a), (Value.int x1)])) rfl rfl (hb hby own_d9_21)
    refine own_st st3 ?_
    show own_G p e below s _ _ _ (T3.setTop (mkF m 24 #[.val (Value.ref a), .val (Value.int x1), .val Value.null, .val (Value.int x3), .val (Value.int (own_dn n V D x1 x3)), .unset] [(Value.ref kv), (Value.int x1)]))
    refine own_alen X3 hx hby hZ e3 A_v own_d9_24 ?_
    show own_G p e below s _ _ _ (T3.setTop (mkF m 25 #[.val (Value.ref a), .val (Value.int x1), .val Value.null, .val (Value.int x3), .val (Value.int (own_dn n V D x1 x3)), .unset] [(Value.int n.toInt32), (Value.int x1)]))
    refine own_iconst X3 hx hby own_d9_25 ?_
    show own_G p e below s _ _ _ (T3.setTop (mkF m 26 #[.val (Value.ref a), .val (Value.int x1), .val Value.null, .val (Value.int x3), .val (Value.int (own_dn n V D x1 x3)), .unset] [(Value.int (1 : Int32)), (Value.int n.toInt32), (Value.int x1)]))
    refine own_isub X3 hx hby own_d9_26 ?_
    show own_G p e below s _ _ _ (T3.setTop (mkF m 27 #[.val (Value.ref a), .val (Value.int x1), .val Value.null, .val (Value.int x3), .val (Value.int (own_dn n V D x1 x3)), .unset] [(Value.int (n.toInt32 - (1 : Int32))), (Value.int x1)]))
    refine own_iand X3 hx hby own_d9_27 ?_
    show own_G p e below s _ _ _ (T3.setTop (mkF m 28 #[.val (Value.ref a), .val (Value.int x1), .val Value.null, .val (Value.int x3), .val (Value.int (own_dn n V D x1 x3)), .unset] [(Value.int (x1 &&& (n.toInt32 - (1 : Int32))))]))
    refine own_istore X3 hx hby own_d9_28 (l' := #[.val (Value.ref a), .val (Value.int x1), .val Value.null, .val (Value.int x3), .val (Value.int (own_dn n V D x1 x3)), .val (Value.int (x1 &&& (n.toInt32 - (1 : Int32))))]) rfl ?_
    show own_G p e below s _ _ _ (T3.setTop (mkF m 30 #[.val (Value.ref a), .val (Value.int x1), .val Value.null, .val (Value.int x3), .val (Value.int (own_dn n V D x1 x3)), .val (Value.int (x1 &&& (n.toInt32 - (1 : Int32))))] []))
    refine own_aloadN X3 hx hby own_d9_30 rfl rfl ?_
    show own_G p e below s _ _ _ (T3.setTop (mkF m 31 #[.val (Value.ref a), .val (Value.int x1), .val Value.null, .val (Value.int x3), .val (Value.int (own_dn n V D x1 x3)), .val (Value.int (x1 &&& (n.toInt32 - (1 : Int32))))] [(Value.ref a)]))
    obtain ⟨T4, X4, e4, st4⟩ := getF X3 hx hZ hown (host := "") (Or.inl (own_w33 hw)) Via.refl e3 F_v (g := (mkF m 31 #[.val (Value.ref a), .val (Value.int x1), .val Value.null, .val (Value.int x3), .val (Value.int (own_dn n V D x1 x3)), .val (Value.int (x1 &&& (n.toInt32 - (1 : Int32))))] [(Value.ref a)])) rfl rfl (hb hby own_d9_31)
    refine own_st st4 ?_
    show own_G p e below s _ _ _ (T4.setTop (mkF m 34 #[.val (Value.ref a), .val (Value.int x1), .val Value.null, .val (Value.int x3), .val (Value.int (own_dn n V D x1 x3)), .val (Value.int (x1 &&& (n.toInt32 - (1 : Int32))))] [(Value.ref kv)]))
    refine own_iload X4 hx hby own_d9_34 rfl ?_
    show own_G p e below s _ _ _ (T4.setTop (mkF m 36 #[.val (Value.ref a), .val (Value.int x1), .val Value.null, .val (Value.int x3), .val (Value.int (own_dn n V D x1 x3)), .val (Value.int (x1 &&& (n.toInt32 - (1 : Int32))))] [(Value.int (x1 &&& (n.toInt32 - (1 : Int32)))), (Value.ref kv)]))
    refine own_iaload X4 hx hby hZ e4 A_v (j := (x1 &&& (n.toInt32 - (1 : Int32)))) (i := (own_ix n x1)) (own_and_ix (n := n) hpw x1).1 (own_and_ix (n := n) hpw x1).2 own_d9_36 ?_
    show own_G p e below s _ _ _ (T4.setTop (mkF m 37 #[.val (Value.ref a), .val (Value.int x1), .val Value.null, .val (Value.int x3), .val (Value.int (own_dn n V D x1 x3)), .val (Value.int (x1 &&& (n.toInt32 - (1 : Int32))))] [(Value.int (V (own_ix n x1)))]))
    refine own_if_lt X4 hx hby own_d9_37 (pc' := 70) (by decide) (by decide) (fun hb5 => ?_) (fun hb5 => by exfalso; apply hb5; rw [Int32.lt_iff_toInt_lt]; exact hneg)
    show own_G p e below s _ _ _ (T4.setTop (mkF m 70 #[.val (Value.ref a), .val (Value.int x1), .val Value.null, .val (Value.int x3), .val (Value.int (own_dn n V D x1 x3)), .val (Value.int (x1 &&& (n.toInt32 - (1 : Int32))))] []))
    refine own_aloadN X4 hx hby own_d9_70 rfl rfl ?_
    show own_G p e below s _ _ _ (T4.setTop (mkF m 71 #[.val (Value.ref a), .val (Value.int x1), .val Value.null, .val (Value.int x3), .val (Value.int (own_dn n V D x1 x3)), .val (Value.int (x1 &&& (n.toInt32 - (1 : Int32))))] [(Value.ref a)]))
    obtain ⟨T6, X6, e6, st6⟩ := getF X4 hx hZ hown (host := "") (Or.inl (own_w33 hw)) Via.refl e4 F_v (g := (mkF m 71 #[.val (Value.ref a), .val (Value.int x1), .val Value.null, .val (Value.int x3), .val (Value.int (own_dn n V D x1 x3)), .val (Value.int (x1 &&& (n.toInt32 - (1 : Int32))))] [(Value.ref a)])) rfl rfl (hb hby own_d9_71)
    refine own_st st6 ?_
    show own_G p e below s _ _ _ (T6.setTop (mkF m 74 #[.val (Value.ref a), .val (Value.int x1), .val Value.null, .val (Value.int x3), .val (Value.int (own_dn n V D x1 x3)), .val (Value.int (x1 &&& (n.toInt32 - (1 : Int32))))] [(Value.ref kv)]))
    refine own_iload X6 hx hby own_d9_74 rfl ?_
    show own_G p e below s _ _ _ (T6.setTop (mkF m 76 #[.val (Value.ref a), .val (Value.int x1), .val Value.null, .val (Value.int x3), .val (Value.int (own_dn n V D x1 x3)), .val (Value.int (x1 &&& (n.toInt32 - (1 : Int32))))] [(Value.int (x1 &&& (n.toInt32 - (1 : Int32)))), (Value.ref kv)]))
    refine own_iloadN X6 hx hby own_d9_76 rfl ?_
    show own_G p e below s _ _ _ (T6.setTop (mkF m 77 #[.val (Value.ref a), .val (Value.int x1), .val Value.null, .val (Value.int x3), .val (Value.int (own_dn n V D x1 x3)), .val (Value.int (x1 &&& (n.toInt32 - (1 : Int32))))] [(Value.int x1), (Value.int (x1 &&& (n.toInt32 - (1 : Int32)))), (Value.ref kv)]))
    obtain ⟨T7, h7, X7, e7, W7, A7, st7⟩ := own_iastore X6 hx hby hZ e6 A_v (j := (x1 &&& (n.toInt32 - (1 : Int32)))) (i := (own_ix n x1)) (own_and_ix (n := n) hpw x1).1 (own_and_ix (n := n) hpw x1).2 (x := x1) own_d9_77 (Ls := #[.val (Value.ref a), .val (Value.int x1), .val Value.null, .val (Value.int x3), .val (Value.int (own_dn n V D x1 x3)), .val (Value.int (x1 &&& (n.toInt32 - (1 : Int32))))]) (st := [])
    have F8_a_limit := Fld.other W7 F_lim (Or.inl nav)
    have F8_a_vertices := Fld.other W7 F_v (Or.inl nav)
    have F8_a_lists := Fld.other W7 F_l (Or.inl nav)
    have F8_a_depths := Fld.other W7 F_d (Or.inl nav)
    have E8_a := Exa.wr W7 E_a
    have A8_kl := own_Ar.other A_l W7 (Ne.symm nvl)
    have A8_kd := own_Ar.other A_d W7 (Ne.symm nvd)
    have O8 := Old.wr O0 W7 gv
    have N7 := Fr.snoc X7 N2 gv
    have K7 := Keep.wr (Keep.refl h0 [a, kv, kl, kd]) W7 (Or.inl (List.mem_of_getElem? (i := 1) rfl))
    have A7n : own_Ar Z h7 kv .int n (fun j => Value.int ((own_up V (own_ix n x1) x1) j)) := own_Ar.fn A7 (by intro j _; simp only [own_set, own_up]; split <;> rfl)
    refine own_st st7 ?_
    show own_G p e below s _ _ _ (T7.setTop (mkF m 78 #[.val (Value.ref a), .val (Value.int x1), .val Value.null, .val (Value.int x3), .val (Value.int (own_dn n V D x1 x3)), .val (Value.int (x1 &&& (n.toInt32 - (1 : Int32))))] []))
    refine own_aloadN X7 hx hby own_d9_78 rfl rfl ?_
    show own_G p e below s _ _ _ (T7.setTop (mkF m 79 #[.val (Value.ref a), .val (Value.int x1), .val Value.null, .val (Value.int x3), .val (Value.int (own_dn n V D x1 x3)), .val (Value.int (x1 &&& (n.toInt32 - (1 : Int32))))] [(Value.ref a)]))
    obtain ⟨T9, X9, e9, st9⟩ := getF X7 hx hZ hown (host := "") (Or.inl (own_w37 hw)) Via.refl e7 F8_a_lists (g := (mkF m 79 #[.val (Value.ref a), .val (Value.int x1), .val Value.null, .val (Value.int x3), .val (Value.int (own_dn n V D x1 x3)), .val (Value.int (x1 &&& (n.toInt32 - (1 : Int32))))] [(Value.ref a)])) rfl rfl (hb hby own_d9_79)
    refine own_st st9 ?_
    show own_G p e below s _ _ _ (T9.setTop (mkF m 82 #[.val (Value.ref a), .val (Value.int x1), .val Value.null, .val (Value.int x3), .val (Value.int (own_dn n V D x1 x3)), .val (Value.int (x1 &&& (n.toInt32 - (1 : Int32))))] [(Value.ref kl)]))
    refine own_iload X9 hx hby own_d9_82 rfl ?_
    show own_G p e below s _ _ _ (T9.setTop (mkF m 84 #[.val (Value.ref a), .val (Value.int x1), .val Value.null, .val (Value.int x3), .val (Value.int (own_dn n V D x1 x3)), .val (Value.int (x1 &&& (n.toInt32 - (1 : Int32))))] [(Value.int (x1 &&& (n.toInt32 - (1 : Int32)))), (Value.ref kl)]))
    refine own_aloadN X9 hx hby own_d9_84 rfl rfl ?_
    show own_G p e below s _ _ _ (T9.setTop (mkF m 85 #[.val (Value.ref a), .val (Value.int x1), .val Value.null, .val (Value.int x3), .val (Value.int (own_dn n V D x1 x3)), .val (Value.int (x1 &&& (n.toInt32 - (1 : Int32))))] [Value.null, (Value.int (x1 &&& (n.toInt32 - (1 : Int32)))), (Value.ref kl)]))
    obtain ⟨T10, h10, X10, e10, W10, A10, st10⟩ := own_aastore X9 hx hby hZ e9 A8_kl rfl (j := (x1 &&& (n.toInt32 - (1 : Int32)))) (i := (own_ix n x1)) (own_and_ix (n := n) hpw x1).1 (own_and_ix (n := n) hpw x1).2 (Or.inl rfl) own_d9_85 (Ls := #[.val (Value.ref a), .val (Value.int x1), .val Value.null, .val (Value.int x3), .val (Value.int (own_dn n V D x1 x3)), .val (Value.int (x1 &&& (n.toInt32 - (1 : Int32))))]) (st := [])
    have F11_a_limit := Fld.other W10 F8_a_limit (Or.inl nal)
    have F11_a_vertices := Fld.other W10 F8_a_vertices (Or.inl nal)
    have F11_a_lists := Fld.other W10 F8_a_lists (Or.inl nal)
    have F11_a_depths := Fld.other W10 F8_a_depths (Or.inl nal)
    have E11_a := Exa.wr W10 E8_a
    have A11_kv := own_Ar.other A7n W10 nvl
    have A11_kd := own_Ar.other A8_kd W10 (Ne.symm nld)
    have O11 := Old.wr O8 W10 gl
    have N10 := Fr.snoc X10 N7 gl
    have K10 := Keep.wr K7 W10 (Or.inl (List.mem_of_getElem? (i := 2) rfl))
    have A10n : own_Ar Z h10 kl (.array .int) n (fun _ => Value.null) := own_Ar.fn A10 (by intro j _; simp only [own_set]; split <;> rfl)
    refine own_st st10 ?_
    show own_G p e below s _ _ _ (T10.setTop (mkF m 86 #[.val (Value.ref a), .val (Value.int x1), .val Value.null, .val (Value.int x3), .val (Value.int (own_dn n V D x1 x3)), .val (Value.int (x1 &&& (n.toInt32 - (1 : Int32))))] []))
    refine own_aloadN X10 hx hby own_d9_86 rfl rfl ?_
    show own_G p e below s _ _ _ (T10.setTop (mkF m 87 #[.val (Value.ref a), .val (Value.int x1), .val Value.null, .val (Value.int x3), .val (Value.int (own_dn n V D x1 x3)), .val (Value.int (x1 &&& (n.toInt32 - (1 : Int32))))] [(Value.ref a)]))
    obtain ⟨T12, X12, e12, st12⟩ := getF X10 hx hZ hown (host := "") (Or.inl (own_w39 hw)) Via.refl e10 F11_a_depths (g := (mkF m 87 #[.val (Value.ref a), .val (Value.int x1), .val Value.null, .val (Value.int x3), .val (Value.int (own_dn n V D x1 x3)), .val (Value.int (x1 &&& (n.toInt32 - (1 : Int32))))] [(Value.ref a)])) rfl rfl (hb hby own_d9_87)
    refine own_st st12 ?_
    show own_G p e below s _ _ _ (T12.setTop (mkF m 90 #[.val (Value.ref a), .val (Value.int x1), .val Value.null, .val (Value.int x3), .val (Value.int (own_dn n V D x1 x3)), .val (Value.int (x1 &&& (n.toInt32 - (1 : Int32))))] [(Value.ref kd)]))
    refine own_iload X12 hx hby own_d9_90 rfl ?_
    show own_G p e below s _ _ _ (T12.setTop (mkF m 92 #[.val (Value.ref a), .val (Value.int x1), .val Value.null, .val (Value.int x3), .val (Value.int (own_dn n V D x1 x3)), .val (Value.int (x1 &&& (n.toInt32 - (1 : Int32))))] [(Value.int (x1 &&& (n.toInt32 - (1 : Int32)))), (Value.ref kd)]))
    refine own_iload X12 hx hby own_d9_92 rfl ?_
    show own_G p e below s _ _ _ (T12.setTop (mkF m 94 #[.val (Value.ref a), .val (Value.int x1), .val Value.null, .val (Value.int x3), .val (Value.int (own_dn n V D x1 x3)), .val (Value.int (x1 &&& (n.toInt32 - (1 : Int32))))] [(Value.int (own_dn n V D x1 x3)), (Value.int (x1 &&& (n.toInt32 - (1 : Int32)))), (Value.ref kd)]))
    obtain ⟨T13, h13, X13, e13, W13, A13, st13⟩ := own_iastore X12 hx hby hZ e12 A11_kd (j := (x1 &&& (n.toInt32 - (1 : Int32)))) (i := (own_ix n x1)) (own_and_ix (n := n) hpw x1).1 (own_and_ix (n := n) hpw x1).2 (x := (own_dn n V D x1 x3)) own_d9_94 (Ls := #[.val (Value.ref a), .val (Value.int x1), .val Value.null, .val (Value.int x3), .val (Value.int (own_dn n V D x1 x3)), .val (Value.int (x1 &&& (n.toInt32 - (1 : Int32))))]) (st := [])
    have F14_a_limit := Fld.other W13 F11_a_limit (Or.inl nad)
    have F14_a_vertices := Fld.other W13 F11_a_vertices (Or.inl nad)
    have F14_a_lists := Fld.other W13 F11_a_lists (Or.inl nad)
    have F14_a_depths := Fld.other W13 F11_a_depths (Or.inl nad)
    have E14_a := Exa.wr W13 E11_a
    have A14_kv := own_Ar.other A11_kv W13 nvd
    have A14_kl := own_Ar.other A10n W13 nld
    have O14 := Old.wr O11 W13 gd
    have N13 := Fr.snoc X13 N10 gd
    have K13 := Keep.wr K10 W13 (Or.inl (List.mem_of_getElem? (i := 3) rfl))
    have A13n : own_Ar Z h13 kd .int n (fun j => Value.int ((own_up D (own_ix n x1) (own_dn n V D x1 x3)) j)) := own_Ar.fn A13 (by intro j _; simp only [own_set, own_up]; split <;> rfl)
    refine own_st st13 ?_
    show own_G p e below s _ _ _ (T13.setTop (mkF m 95 #[.val (Value.ref a), .val (Value.int x1), .val Value.null, .val (Value.int x3), .val (Value.int (own_dn n V D x1 x3)), .val (Value.int (x1 &&& (n.toInt32 - (1 : Int32))))] []))
    refine own_ret0 X13 hx hby hlk Bd.returns own_d9_95 (by decide) (by decide) ?_
    show own_rmKN_Q Z a x1 x3 lim kv kl kd n V D h0 n0 _ T13.heap _
    rw [e13]
    exact ⟨rfl, N13, K13, kv, kl, kd, _, _, _, hpw, hl, own_put (own_pw_pos hpw).1 hI hv0 (Or.inr hneg), E14_a, F14_a_limit, F14_a_vertices, F14_a_lists, F14_a_depths, A14_kv, A14_kl, A13n, gv, gl, gd, nav, nal, nad, nvl, nvd, nld⟩
  · show own_G p e below s _ _ _ (s₁.setTop (mkF m 4 #[.val (Value.ref a), .val (Value.int x1), .val Value.null, .val (Value.int x3), .unset, .unset] []))
    refine own_iconst X0 hx hby own_d9_4 ?_
    show own_G p e below s _ _ _ (s₁.setTop (mkF m 5 #[.val (Value.ref a), .val (Value.int x1), .val Value.null, .val (Value.int x3), .unset, .unset] [(Value.int (0 : Int32))]))
    refine own_goto X0 hx hby own_d9_5 (pc' := 17) (by decide) (by decide) ?_
    show own_G p e below s _ _ _ (s₁.setTop (mkF m 17 #[.val (Value.ref a), .val (Value.int x1), .val Value.null, .val (Value.int x3), .unset, .unset] [(Value.int (0 : Int32))]))
    rw [show ((0 : Int32) : Int32) = (own_dn n V D x1 x3) from (if_pos hb1).symm]
    refine own_istore X0 hx hby own_d9_17 (l' := #[.val (Value.ref a), .val (Value.int x1), .val Value.null, .val (Value.int x3), .val (Value.int (own_dn n V D x1 x3)), .unset]) rfl ?_
    show own_G p e below s _ _ _ (s₁.setTop (mkF m 19 #[.val (Value.ref a), .val (Value.int x1), .val Value.null, .val (Value.int x3), .val (Value.int (own_dn n V D x1 x3)), .unset] []))
    refine own_iloadN X0 hx hby own_d9_19 rfl ?_
    show own_G p e below s _ _ _ (s₁.setTop (mkF m 20 #[.val (Value.ref a), .val (Value.int x1), .val Value.null, .val (Value.int x3), .val (Value.int (own_dn n V D x1 x3)), .unset] [(Value.int x1)]))
    refine own_aloadN X0 hx hby own_d9_20 rfl rfl ?_
    show own_G p e below s _ _ _ (s₁.setTop (mkF m 21 #[.val (Value.ref a), .val (Value.int x1), .val Value.null, .val (Value.int x3), .val (Value.int (own_dn n V D x1 x3)), .unset] [(Value.ref a), (Value.int x1)]))
    obtain ⟨T15, X15, e15, st15⟩ := getF X0 hx hZ hown (host := "") (Or.inl (own_w33 hw)) Via.refl e0 F_v (g := (mkF m 21 #[.val (Value.ref a), .val (Value.int x1), .val Value.null, .val (Value.int x3), .val (Value.int (own_dn n V D x1 x3)), .unset] [(Value.ref a), (Value.int x1)])) rfl rfl (hb hby own_d9_21)
    refine own_st st15 ?_
    show own_G p e below s _ _ _ (T15.setTop (mkF m 24 #[.val (Value.ref a), .val (Value.int x1), .val Value.null, .val (Value.int x3), .val (Value.int (own_dn n V D x1 x3)), .unset] [(Value.ref kv), (Value.int x1)]))
    refine own_alen X15 hx hby hZ e15 A_v own_d9_24 ?_
    show own_G p e below s _ _ _ (T15.setTop (mkF m 25 #[.val (Value.ref a), .val (Value.int x1), .val Value.null, .val (Value.int x3), .val (Value.int (own_dn n V D x1 x3)), .unset] [(Value.int n.toInt32), (Value.int x1)]))
    refine own_iconst X15 hx hby own_d9_25 ?_
    show own_G p e below s _ _ _ (T15.setTop (mkF m 26 #[.val (Value.ref a), .val (Value.int x1), .val Value.null, .val (Value.int x3), .val (Value.int (own_dn n V D x1 x3)), .unset] [(Value.int (1 : Int32)), (Value.int n.toInt32), (Value.int x1)]))
    refine own_isub X15 hx hby own_d9_26 ?_
    show own_G p e below s _ _ _ (T15.setTop (mkF m 27 #[.val (Value.ref a), .val (Value.int x1), .val Value.null, .val (Value.int x3), .val (Value.int (own_dn n V D x1 x3)), .unset] [(Value.int (n.toInt32 - (1 : Int32))), (Value.int x1)]))
    refine own_iand X15 hx hby own_d9_27 ?_
    show own_G p e below s _ _ _ (T15.setTop (mkF m 28 #[.val (Value.ref a), .val (Value.int x1), .val Value.null, .val (Value.int x3), .val (Value.int (own_dn n V D x1 x3)), .unset] [(Value.int (x1 &&& (n.toInt32 - (1 : Int32))))]))
    refine own_istore X15 hx hby own_d9_28 (l' := #[.val (Value.ref a), .val (Value.int x1), .val Value.null, .val (Value.int x3), .val (Value.int (own_dn n V D x1 x3)), .val (Value.int (x1 &&& (n.toInt32 - (1 : Int32))))]) rfl ?_
    show own_G p e below s _ _ _ (T15.setTop (mkF m 30 #[.val (Value.ref a), .val (Value.int x1), .val Value.null, .val (Value.int x3), .val (Value.int (own_dn n V D x1 x3)), .val (Value.int (x1 &&& (n.toInt32 - (1 : Int32))))] []))
    refine own_aloadN X15 hx hby own_d9_30 rfl rfl ?_
    show own_G p e below s _ _ _ (T15.setTop (mkF m 31 #[.val (Value.ref a), .val (Value.int x1), .val Value.null, .val (Value.int x3), .val (Value.int (own_dn n V D x1 x3)), .val (Value.int (x1 &&& (n.toInt32 - (1 : Int32))))] [(Value.ref a)]))
    obtain ⟨T16, X16, e16, st16⟩ := getF X15 hx hZ hown (host := "") (Or.inl (own_w33 hw)) Via.refl e15 F_v (g := (mkF m 31 #[.val (Value.ref a), .val (Value.int x1), .val Value.null, .val (Value.int x3), .val (Value.int (own_dn n V D x1 x3)), .val (Value.int (x1 &&& (n.toInt32 - (1 : Int32))))] [(Value.ref a)])) rfl rfl (hb hby own_d9_31)
    refine own_st st16 ?_
    show own_G p e below s _ _ _ (T16.setTop (mkF m 34 #[.val (Value.ref a), .val (Value.int x1), .val Value.null, .val (Value.int x3), .val (Value.int (own_dn n V D x1 x3)), .val (Value.int (x1 &&& (n.toInt32 - (1 : Int32))))] [(Value.ref kv)]))
    refine own_iload X16 hx hby own_d9_34 rfl ?_
    show own_G p e below s _ _ _ (T16.setTop (mkF m 36 #[.val (Value.ref a), .val (Value.int x1), .val Value.null, .val (Value.int x3), .val (Value.int (own_dn n V D x1 x3)), .val (Value.int (x1 &&& (n.toInt32 - (1 : Int32))))] [(Value.int (x1 &&& (n.toInt32 - (1 : Int32)))), (Value.ref kv)]))
    refine own_iaload X16 hx hby hZ e16 A_v (j := (x1 &&& (n.toInt32 - (1 : Int32)))) (i := (own_ix n x1)) (own_and_ix (n := n) hpw x1).1 (own_and_ix (n := n) hpw x1).2 own_d9_36 ?_
    show own_G p e below s _ _ _ (T16.setTop (mkF m 37 #[.val (Value.ref a), .val (Value.int x1), .val Value.null, .val (Value.int x3), .val (Value.int (own_dn n V D x1 x3)), .val (Value.int (x1 &&& (n.toInt32 - (1 : Int32))))] [(Value.int (V (own_ix n x1)))]))
    refine own_if_lt X16 hx hby own_d9_37 (pc' := 70) (by decide) (by decide) (fun hb17 => ?_) (fun hb17 => by exfalso; apply hb17; rw [Int32.lt_iff_toInt_lt]; exact hneg)
    show own_G p e below s _ _ _ (T16.setTop (mkF m 70 #[.val (Value.ref a), .val (Value.int x1), .val Value.null, .val (Value.int x3), .val (Value.int (own_dn n V D x1 x3)), .val (Value.int (x1 &&& (n.toInt32 - (1 : Int32))))] []))
    refine own_aloadN X16 hx hby own_d9_70 rfl rfl ?_
    show own_G p e below s _ _ _ (T16.setTop (mkF m 71 #[.val (Value.ref a), .val (Value.int x1), .val Value.null, .val (Value.int x3), .val (Value.int (own_dn n V D x1 x3)), .val (Value.int (x1 &&& (n.toInt32 - (1 : Int32))))] [(Value.ref a)]))
    obtain ⟨T18, X18, e18, st18⟩ := getF X16 hx hZ hown (host := "") (Or.inl (own_w33 hw)) Via.refl e16 F_v (g := (mkF m 71 #[.val (Value.ref a), .val (Value.int x1), .val Value.null, .val (Value.int x3), .val (Value.int (own_dn n V D x1 x3)), .val (Value.int (x1 &&& (n.toInt32 - (1 : Int32))))] [(Value.ref a)])) rfl rfl (hb hby own_d9_71)
    refine own_st st18 ?_
    show own_G p e below s _ _ _ (T18.setTop (mkF m 74 #[.val (Value.ref a), .val (Value.int x1), .val Value.null, .val (Value.int x3), .val (Value.int (own_dn n V D x1 x3)), .val (Value.int (x1 &&& (n.toInt32 - (1 : Int32))))] [(Value.ref kv)]))
    refine own_iload X18 hx hby own_d9_74 rfl ?_
    show own_G p e below s _ _ _ (T18.setTop (mkF m 76 #[.val (Value.ref a), .val (Value.int x1), .val Value.null, .val (Value.int x3), .val (Value.int (own_dn n V D x1 x3)), .val (Value.int (x1 &&& (n.toInt32 - (1 : Int32))))] [(Value.int (x1 &&& (n.toInt32 - (1 : Int32)))), (Value.ref kv)]))
    refine own_iloadN X18 hx hby own_d9_76 rfl ?_
    show own_G p e below s _ _ _ (T18.setTop (mkF m 77 #[.val (Value.ref a), .val (Value.int x1), .val Value.null, .val (Value.int x3), .val (Value.int (own_dn n V D x1 x3)), .val (Value.int (x1 &&& (n.toInt32 - (1 : Int32))))] [(Value.int x1), (Value.int (x1 &&& (n.toInt32 - (1 : Int32)))), (Value.ref kv)]))
    obtain ⟨T19, h19, X19, e19, W19, A19, st19⟩ := own_iastore X18 hx hby hZ e18 A_v (j := (x1 &&& (n.toInt32 - (1 : Int32)))) (i := (own_ix n x1)) (own_and_ix (n := n) hpw x1).1 (own_and_ix (n := n) hpw x1).2 (x := x1) own_d9_77 (Ls := #[.val (Value.ref a), .val (Value.int x1), .val Value.null, .val (Value.int x3), .val (Value.int (own_dn n V D x1 x3)), .val (Value.int (x1 &&& (n.toInt32 - (1 : Int32))))]) (st := [])
    have F20_a_limit := Fld.other W19 F_lim (Or.inl nav)
    have F20_a_vertices := Fld.other W19 F_v (Or.inl nav)
    have F20_a_lists := Fld.other W19 F_l (Or.inl nav)
    have F20_a_depths := Fld.other W19 F_d (Or.inl nav)
    have E20_a := Exa.wr W19 E_a
    have A20_kl := own_Ar.other A_l W19 (Ne.symm nvl)
    have A20_kd := own_Ar.other A_d W19 (Ne.symm nvd)
    have O20 := Old.wr O0 W19 gv
    have N19 := Fr.snoc X19 N0 gv
    have K19 := Keep.wr (Keep.refl h0 [a, kv, kl, kd]) W19 (Or.inl (List.mem_of_getElem? (i := 1) rfl))
    have A19n : own_Ar Z h19 kv .int n (fun j => Value.int ((own_up V (own_ix n x1) x1) j)) := own_Ar.fn A19 (by intro j _; simp only [own_set, own_up]; split <;> rfl)
    refine own_st st19 ?_
    show own_G p e below s _ _ _ (T19.setTop (mkF m 78 #[.val (Value.ref a), .val (Value.int x1), .val Value.null, .val (Value.int x3), .val (Value.int (own_dn n V D x1 x3)), .val (Value.int (x1 &&& (n.toInt32 - (1 : Int32))))] []))
    refine own_aloadN X19 hx hby own_d9_78 rfl rfl ?_
    show own_G p e below s _ _ _ (T19.setTop (mkF m 79 #[.val (Value.ref a), .val (Value.int x1), .val Value.null, .val (Value.int x3), .val (Value.int (own_dn n V D x1 x3)), .val (Value.int (x1 &&& (n.toInt32 - (1 : Int32))))] [(Value.ref a)]))
    obtain ⟨T21, X21, e21, st21⟩ := getF X19 hx hZ hown (host := "") (Or.inl (own_w37 hw)) Via.refl e19 F20_a_lists (g := (mkF m 79 #[.val (Value.ref a), .val (Value.int x1), .val Value.null, .val (Value.int x3), .val (Value.int (own_dn n V D x1 x3)), .val (Value.int (x1 &&& (n.toInt32 - (1 : Int32))))] [(Value.ref a)])) rfl rfl (hb hby own_d9_79)
    refine own_st st21 ?_
    show own_G p e below s _ _ _ (T21.setTop (mkF m 82 #[.val (Value.ref a), .val (Value.int x1), .val Value.null, .val (Value.int x3), .val (Value.int (own_dn n V D x1 x3)), .val (Value.int (x1 &&& (n.toInt32 - (1 : Int32))))] [(Value.ref kl)]))
    refine own_iload X21 hx hby own_d9_82 rfl ?_
    show own_G p e below s _ _ _ (T21.setTop (mkF m 84 #[.val (Value.ref a), .val (Value.int x1), .val Value.null, .val (Value.int x3), .val (Value.int (own_dn n V D x1 x3)), .val (Value.int (x1 &&& (n.toInt32 - (1 : Int32))))] [(Value.int (x1 &&& (n.toInt32 - (1 : Int32)))), (Value.ref kl)]))
    refine own_aloadN X21 hx hby own_d9_84 rfl rfl ?_
    show own_G p e below s _ _ _ (T21.setTop (mkF m 85 #[.val (Value.ref a), .val (Value.int x1), .val Value.null, .val (Value.int x3), .val (Value.int (own_dn n V D x1 x3)), .val (Value.int (x1 &&& (n.toInt32 - (1 : Int32))))] [Value.null, (Value.int (x1 &&& (n.toInt32 - (1 : Int32)))), (Value.ref kl)]))
    obtain ⟨T22, h22, X22, e22, W22, A22, st22⟩ := own_aastore X21 hx hby hZ e21 A20_kl rfl (j := (x1 &&& (n.toInt32 - (1 : Int32)))) (i := (own_ix n x1)) (own_and_ix (n := n) hpw x1).1 (own_and_ix (n := n) hpw x1).2 (Or.inl rfl) own_d9_85 (Ls := #[.val (Value.ref a), .val (Value.int x1), .val Value.null, .val (Value.int x3), .val (Value.int (own_dn n V D x1 x3)), .val (Value.int (x1 &&& (n.toInt32 - (1 : Int32))))]) (st := [])
    have F23_a_limit := Fld.other W22 F20_a_limit (Or.inl nal)
    have F23_a_vertices := Fld.other W22 F20_a_vertices (Or.inl nal)
    have F23_a_lists := Fld.other W22 F20_a_lists (Or.inl nal)
    have F23_a_depths := Fld.other W22 F20_a_depths (Or.inl nal)
    have E23_a := Exa.wr W22 E20_a
    have A23_kv := own_Ar.other A19n W22 nvl
    have A23_kd := own_Ar.other A20_kd W22 (Ne.symm nld)
    have O23 := Old.wr O20 W22 gl
    have N22 := Fr.snoc X22 N19 gl
    have K22 := Keep.wr K19 W22 (Or.inl (List.mem_of_getElem? (i := 2) rfl))
    have A22n : own_Ar Z h22 kl (.array .int) n (fun _ => Value.null) := own_Ar.fn A22 (by intro j _; simp only [own_set]; split <;> rfl)
    refine own_st st22 ?_
    show own_G p e below s _ _ _ (T22.setTop (mkF m 86 #[.val (Value.ref a), .val (Value.int x1), .val Value.null, .val (Value.int x3), .val (Value.int (own_dn n V D x1 x3)), .val (Value.int (x1 &&& (n.toInt32 - (1 : Int32))))] []))
    refine own_aloadN X22 hx hby own_d9_86 rfl rfl ?_
    show own_G p e below s _ _ _ (T22.setTop (mkF m 87 #[.val (Value.ref a), .val (Value.int x1), .val Value.null, .val (Value.int x3), .val (Value.int (own_dn n V D x1 x3)), .val (Value.int (x1 &&& (n.toInt32 - (1 : Int32))))] [(Value.ref a)]))
    obtain ⟨T24, X24, e24, st24⟩ := getF X22 hx hZ hown (host := "") (Or.inl (own_w39 hw)) Via.refl e22 F23_a_depths (g := (mkF m 87 #[.val (Value.ref a), .val (Value.int x1), .val Value.null, .val (Value.int x3), .val (Value.int (own_dn n V D x1 x3)), .val (Value.int (x1 &&& (n.toInt32 - (1 : Int32))))] [(Value.ref a)])) rfl rfl (hb hby own_d9_87)
    refine own_st st24 ?_
    show own_G p e below s _ _ _ (T24.setTop (mkF m 90 #[.val (Value.ref a), .val (Value.int x1), .val Value.null, .val (Value.int x3), .val (Value.int (own_dn n V D x1 x3)), .val (Value.int (x1 &&& (n.toInt32 - (1 : Int32))))] [(Value.ref kd)]))
    refine own_iload X24 hx hby own_d9_90 rfl ?_
    show own_G p e below s _ _ _ (T24.setTop (mkF m 92 #[.val (Value.ref a), .val (Value.int x1), .val Value.null, .val (Value.int x3), .val (Value.int (own_dn n V D x1 x3)), .val (Value.int (x1 &&& (n.toInt32 - (1 : Int32))))] [(Value.int (x1 &&& (n.toInt32 - (1 : Int32)))), (Value.ref kd)]))
    refine own_iload X24 hx hby own_d9_92 rfl ?_
    show own_G p e below s _ _ _ (T24.setTop (mkF m 94 #[.val (Value.ref a), .val (Value.int x1), .val Value.null, .val (Value.int x3), .val (Value.int (own_dn n V D x1 x3)), .val (Value.int (x1 &&& (n.toInt32 - (1 : Int32))))] [(Value.int (own_dn n V D x1 x3)), (Value.int (x1 &&& (n.toInt32 - (1 : Int32)))), (Value.ref kd)]))
    obtain ⟨T25, h25, X25, e25, W25, A25, st25⟩ := own_iastore X24 hx hby hZ e24 A23_kd (j := (x1 &&& (n.toInt32 - (1 : Int32)))) (i := (own_ix n x1)) (own_and_ix (n := n) hpw x1).1 (own_and_ix (n := n) hpw x1).2 (x := (own_dn n V D x1 x3)) own_d9_94 (Ls := #[.val (Value.ref a), .val (Value.int x1), .val Value.null, .val (Value.int x3), .val (Value.int (own_dn n V D x1 x3)), .val (Value.int (x1 &&& (n.toInt32 - (1 : Int32))))]) (st := [])
    have F26_a_limit := Fld.other W25 F23_a_limit (Or.inl nad)
    have F26_a_vertices := Fld.other W25 F23_a_vertices (Or.inl nad)
    have F26_a_lists := Fld.other W25 F23_a_lists (Or.inl nad)
    have F26_a_depths := Fld.other W25 F23_a_depths (Or.inl nad)
    have E26_a := Exa.wr W25 E23_a
    have A26_kv := own_Ar.other A23_kv W25 nvd
    have A26_kl := own_Ar.other A22n W25 nld
    have O26 := Old.wr O23 W25 gd
    have N25 := Fr.snoc X25 N22 gd
    have K25 := Keep.wr K22 W25 (Or.inl (List.mem_of_getElem? (i := 3) rfl))
    have A25n : own_Ar Z h25 kd .int n (fun j => Value.int ((own_up D (own_ix n x1) (own_dn n V D x1 x3)) j)) := own_Ar.fn A25 (by intro j _; simp only [own_set, own_up]; split <;> rfl)
    refine own_st st25 ?_
    show own_G p e below s _ _ _ (T25.setTop (mkF m 95 #[.val (Value.ref a), .val (Value.int x1), .val Value.null, .val (Value.int x3), .val (Value.int (own_dn n V D x1 x3)), .val (Value.int (x1 &&& (n.toInt32 - (1 : Int32))))] []))
    refine own_ret0 X25 hx hby hlk Bd.returns own_d9_95 (by decide) (by decide) ?_
    show own_rmKN_Q Z a x1 x3 lim kv kl kd n V D h0 n0 _ T25.heap _
    rw [e25]
    exact ⟨rfl, N25, K25, kv, kl, kd, _, _, _, hpw, hl, own_put (own_pw_pos hpw).1 hI hv0 (Or.inr hneg), E26_a, F26_a_limit, F26_a_vertices, F26_a_lists, F26_a_depths, A26_kv, A26_kl, A25n, gv, gl, gd, nav, nal, nad, nvl, nvd, nld⟩
def own_rmKG_Q (Z : State) (a : Addr) (x1 : Int32) (x3 : Int32) (lim : Int32) (kv kl kd : Addr) (n : Nat) (V D : Nat → Int32) (h0 : Heap) (n0 : Nat) : Option Value → Heap → List Loc → Prop := fun v h L => v = none ∧ Fr n0 L ∧ Keep h0 h [a, kv, kl, kd] ∧ ∃ kv kl kd n' V' D', own_pw n' ∧ (lim.toInt = (n' : Int) ∨ (n' = 64 ∧ lim.toInt = (128 : Nat))) ∧ own_Kp lim n V D x1 (own_dn n V D x1 x3) n' V' D' ∧ Exa Z h a "com/example/tuck/tuck/ListWindow" ∧ Fld Z h a "com/example/tuck/tuck/ListWindow" "limit" "I" (.int lim) ∧ Fld Z h a "com/example/tuck/tuck/ListWindow" "vertices" "[I" (.ref kv) ∧ Fld Z h a "com/example/tuck/tuck/ListWindow" "lists" "[[I" (.ref kl) ∧ Fld Z h a "com/example/tuck/tuck/ListWindow" "depths" "[I" (.ref kd) ∧ own_Ar Z h kv .int n' (fun j => Value.int (V' j)) ∧ own_Ar Z h kl (.array .int) n' (fun _ => Value.null) ∧ own_Ar Z h kd .int n' (fun j => Value.int (D' j)) ∧ n0 ≤ kv ∧ n0 ≤ kl ∧ n0 ≤ kd ∧ a ≠ kv ∧ a ≠ kl ∧ a ≠ kd ∧ kv ≠ kl ∧ kv ≠ kd ∧ kl ≠ kd
theorem own_rmKG_ef (m : MethodId) (a : Addr) (x1 : Int32) (x3 : Int32)  : entryFrame m #[(Value.ref a), (Value.int x1), Value.null, (Value.int x3)] 6 = mkF m 0 #[.val (Value.ref a), .val (Value.int x1), .val Value.null, .val (Value.int x3), .unset, .unset] [] := by first | (simp [entryFrame, mkF, argsToLocals, Value.category]; done) | rfl
set_option maxRecDepth 65536 in
set_option maxHeartbeats 40000000 in
theorem own_rmKG (l : Launch) (Z : State) (a0 : Array Value) (hw : ∀ d ∈ tables_1, d.before a0 Z = true) (ws : List Jvm.Cond) (a : Addr) (x1 : Int32) (x3 : Int32) (lim : Int32) (kv kl kd : Addr) (n : Nat) (V D : Nat → Int32) (h0 : Heap) (n0 : Nat) (O0 : Old Z n0 h0) (E_a : Exa Z h0 a "com/example/tuck/tuck/ListWindow") (F_lim : Fld Z h0 a "com/example/tuck/tuck/ListWindow" "limit" "I" (.int lim)) (F_v : Fld Z h0 a "com/example/tuck/tuck/ListWindow" "vertices" "[I" (.ref kv)) (F_l : Fld Z h0 a "com/example/tuck/tuck/ListWindow" "lists" "[[I" (.ref kl)) (F_d : Fld Z h0 a "com/example/tuck/tuck/ListWindow" "depths" "[I" (.ref kd)) (A_v : own_Ar Z h0 kv .int n (fun j => Value.int (V j))) (A_l : own_Ar Z h0 kl (.array .int) n (fun _ => Value.null)) (A_d : own_Ar Z h0 kd .int n (fun j => Value.int (D j))) (ga : n0 ≤ a) (gv : n0 ≤ kv) (gl : n0 ≤ kl) (gd : n0 ≤ kd) (nav : a ≠ kv) (nal : a ≠ kl) (nad : a ≠ kd) (nvl : kv ≠ kl) (nvd : kv ≠ kd) (nld : kl ≠ kd) (hpw : own_pw n) (hl : lim.toInt = (n : Int) ∨ (n = 64 ∧ lim.toInt = (128 : Nat))) (hI : own_In n V) (hv0 : ¬ x1 < (0 : Int32)) :
    MetFree l (⟨"com/example/tuck/tuck/ListWindow", "keep", "(I[II)V"⟩ : MethodName) (head1 (Jvm.Cond.code (⟨"com/example/tuck/tuck/ListWindow", "keep", "(I[II)V"⟩ : MethodName) prog_53_method_3_code 6 none :: ws) ({ frames := 2, cells := 3, slots := 384, locals := 33 } : Room)) (fun aa_ U => aa_ = #[(Value.ref a), (Value.int x1), Value.null, (Value.int x3)] ∧ Z.Warmed39 U.vm ∧ U.heap = h0) (fun _ _ _ _ _ => True) (fun _ UU_ oo_ UX_ => ∃ vv_ LL_, oo_ = .returned vv_ ∧ (own_rmKG_Q Z a x1 x3 lim kv kl kd n V D h0 n0) vv_ UX_.heap LL_ ∧ FrameEnd UU_ oo_ UX_ LL_ ({ frames := 2, cells := 3, slots := 384, locals := 33 } : Room).cells ({ frames := 2, cells := 3, slots := 384, locals := 33 } : Room).slots) := by
  refine MetFree.of_bodySF (plainFor_of_name own_pn2) hisR ?_
  intro p e s m args below meth c s₁ Bd hml0 hP hK
  obtain ⟨rfl, hZ, hh⟩ := hP
  have hx := Bd.exec
  have hby := Bd.bytes
  have hml : c.maxLocals = 6 := hml0
  have hown : s.vm.findClass "com/example/tuck/tuck/ListWindow" = some m.cls := findClass_of_methodNamed Bd.named
  have hnm := (name_of_methodNamed Bd.named Bd.method).1
  have hlk : meth.locks = false := BodyLoose.notSynchronized Bd
  have X0 : Stand p l e ({ frames := 2, cells := 3, slots := 384, locals := 33 } : Room) s m #[(Value.ref a), (Value.int x1), Value.null, (Value.int x3)] below meth c s₁ [] 0 0 := Stand.of_body Bd
  have e0 : s₁.heap = h0 := by rw [← hh, Bd.state]; rfl
  have N0 := Fr.nil n0
  show own_G p e below s (own_rmKG_Q Z a x1 x3 lim kv kl kd n V D h0 n0) ({ frames := 2, cells := 3, slots := 384, locals := 33 } : Room).cells ({ frames := 2, cells := 3, slots := 384, locals := 33 } : Room).slots (s₁.setTop (entryFrame m #[(Value.ref a), (Value.int x1), Value.null, (Value.int x3)] 6))
  refine own_cast (own_rmKG_ef m a x1 x3 ) ?_
  show own_G p e below s _ _ _ (s₁.setTop (mkF m 0 #[.val (Value.ref a), .val (Value.int x1), .val Value.null, .val (Value.int x3), .unset, .unset] []))
  rcases hl with hl | ⟨rfl, hl⟩
  · skip
    show own_G p e below s _ _ _ (s₁.setTop (mkF m 0 #[.val (Value.ref a), .val (Value.int x1), .val Value.null, .val (Value.int x3), .unset, .unset] []))
    refine own_iloadN X0 hx hby own_d9_0 rfl ?_
    show own_G p e below s _ _ _ (s₁.setTop (mkF m 1 #[.val (Value.ref a), .val (Value.int x1), .val Value.null, .val (Value.int x3), .unset, .unset] [(Value.int x3)]))
    refine own_if_ne X0 hx hby own_d9_1 (pc' := 8) (by decide) (by decide) (fun hb1 => ?_) (fun hb1 => ?_)
    · show own_G p e below s _ _ _ (s₁.setTop (mkF m 8 #[.val (Value.ref a), .val (Value.int x1), .val Value.null, .val (Value.int x3), .unset, .unset] []))
      refine own_aloadN X0 hx hby own_d9_8 rfl rfl ?_
      show own_G p e below s _ _ _ (s₁.setTop (mkF m 9 #[.val (Value.ref a), .val (Value.int x1), .val Value.null, .val (Value.int x3), .unset, .unset] [(Value.ref a)]))
      refine own_iloadN X0 hx hby own_d9_9 rfl ?_
      show own_G p e below s _ _ _ (s₁.setTop (mkF m 10 #[.val (Value.ref a), .val (Value.int x1), .val Value.null, .val (Value.int x3), .unset, .unset] [(Value.int x1), (Value.ref a)]))
      refine own_iloadN X0 hx hby own_d9_10 rfl ?_
      show own_G p e below s _ _ _ (s₁.setTop (mkF m 11 #[.val (Value.ref a), .val (Value.int x1), .val Value.null, .val (Value.int x3), .unset, .unset] [(Value.int x3), (Value.int x1), (Value.ref a)]))
      refine own_isub X0 hx hby own_d9_11 ?_
      show own_G p e below s _ _ _ (s₁.setTop (mkF m 12 #[.val (Value.ref a), .val (Value.int x1), .val Value.null, .val (Value.int x3), .unset, .unset] [(Value.int (x1 - x3)), (Value.ref a)]))
      obtain ⟨cq2, kq2, q2a, q2b, q2c⟩ := isOf (T := s₁) hZ e0 E_a
      obtain ⟨_, _, ⟨T2, L2, k2, n2⟩, -, X2, ⟨Lc2, hQ2, l2, y2, z2⟩, st2⟩ := X0.virtualBack hx (y := (⟨"com/example/tuck/tuck/ListWindow", "depth", "(I)I"⟩ : MethodName)) (z := (⟨"com/example/tuck/tuck/ListWindow", "depth", "(I)I"⟩ : MethodName)) hown (mvT hZ (own_w55 hw)) (mvT hZ (own_w51 hw)) (notFace_of_selects (args := #[]) (mvT hZ (own_w53 hw))) (mvT hZ (own_w53 hw)) (mvT hZ (own_w52 hw)) (by decide) (backOf (W := 0) (own_rmD l Z a0 hw [] a (x1 - x3) lim kv kl kd n V D h0 n0 O0 E_a F_lim F_v F_l F_d A_v A_l A_d ga gv gl gd nav nal nad nvl nvd nld hpw) hZ (own_w54 hw) (own_w4 hw) (by decide) (by decide)) q2a q2c (g := (mkF m 12 #[.val (Value.ref a), .val (Value.int x1), .val Value.null, .val (Value.int x3), .unset, .unset] [(Value.int (x1 - x3)), (Value.ref a)])) rfl (by rw [hml]; rfl) (Steps.refl _) (argsL := [(Value.int (x1 - x3))]) (rest := []) (lenOf own_pd0 rfl) rfl (by show 2 * 0 + _ ≤ _; exact Nat.le_of_eq rfl) (hb hby own_d9_12) (fun _ _ => ⟨rfl, e0, (by decide : (0 : Nat) + 0 ≤ _), (by decide : (0 : Nat) + 0 ≤ _)⟩)
      dsimp only [Pt.U, Pt.locs, Pt.cells, Pt.slots] at X2 l2 y2 z2 st2 hQ2
      subst l2 y2 z2
      obtain ⟨rfl, e2, Nq2⟩ := hQ2
      have N2 := Fr.app N0 Nq2
      refine own_tr st2 ?_
      show own_G p e below s _ _ _ (T2.setTop (mkF m 15 #[.val (Value.ref a), .val (Value.int x1), .val Value.null, .val (Value.int x3), .unset, .unset] [(Value.int (own_dep n V D (x1 - x3)))]))
      refine own_iconst X2 hx hby own_d9_15 ?_
      show own_G p e below s _ _ _ (T2.setTop (mkF m 16 #[.val (Value.ref a), .val (Value.int x1), .val Value.null, .val (Value.int x3), .unset, .unset] [(Value.int (1 : Int32)), (Value.int (own_dep n V D (x1 - x3)))]))
      refine own_iadd X2 hx hby own_d9_16 ?_
      show own_G p e below s _ _ _ (T2.setTop (mkF m 17 #[.val (Value.ref a), .val (Value.int x1), .val Value.null, .val (Value.int x3), .unset, .unset] [(Value.int ((own_dep n V D (x1 - x3)) + (1 : Int32)))]))
      rw [show ((own_dep n V D (x1 - x3)) + (1 : Int32)) = (own_dn n V D x1 x3) from (if_neg hb1).symm]
      refine own_istore X2 hx hby own_d9_17 (l' := #[.val (Value.ref a), .val (Value.int x1), .val Value.null, .val (Value.int x3), .val (Value.int (own_dn n V D x1 x3)), .unset]) rfl ?_
      show own_G p e below s _ _ _ (T2.setTop (mkF m 19 #[.val (Value.ref a), .val (Value.int x1), .val Value.null, .val (Value.int x3), .val (Value.int (own_dn n V D x1 x3)), .unset] []))
      refine own_iloadN X2 hx hby own_d9_19 rfl ?_
      show own_G p e below s _ _ _ (T2.setTop (mkF m 20 #[.val (Value.ref a), .val (Value.int x1), .val Value.null, .val (Value.int x3), .val (Value.int (own_dn n V D x1 x3)), .unset] [(Value.int x1)]))
      refine own_aloadN X2 hx hby own_d9_20 rfl rfl ?_
      show own_G p e below s _ _ _ (T2.setTop (mkF m 21 #[.val (Value.ref a), .val (Value.int x1), .val Value.null, .val (Value.int x3), .val (Value.int (own_dn n V D x1 x3)), .unset] [(Value.ref a), (Value.int x1)]))
      obtain ⟨T3, X3, e3, st3⟩ := getF X2 hx hZ hown (host := "") (Or.inl (own_w33 hw)) Via.refl e2 F_v (g := (mkF m 21 #[.val (Value.ref a), .val (Value.int x1), .val Value.null, .val (Value.int x3), .val (Value.int (own_dn n V D x1 x3)), .unset] [(Value.ref a), (Value.int x1)])) rfl rfl (hb hby own_d9_21)
      refine own_st st3 ?_
      show own_G p e below s _ _ _ (T3.setTop (mkF m 24 #[.val (Value.ref a), .val (Value.int x1), .val Value.null, .val (Value.int x3), .val (Value.int (own_dn n V D x1 x3)), .unset] [(Value.ref kv), (Value.int x1)]))
      refine own_alen X3 hx hby hZ e3 A_v own_d9_24 ?_
      show own_G p e below s _ _ _ (T3.setTop (mkF m 25 #[.val (Value.ref a), .val (Value.int x1), .val Value.null, .val (Value.int x3), .val (Value.int (own_dn n V D x1 x3)), .unset] [(Value.int n.toInt32), (Value.int x1)]))
      refine own_iconst X3 hx hby own_d9_25 ?_
      show own_G p e below s _ _ _ (T3.setTop (mkF m 26 #[.val (Value.ref a), .val (Value.int x1), .val Value.null, .val (Value.int x3), .val (Value.int (own_dn n V D x1 x3)), .unset] [(Value.int (1 : Int32)), (Value.int n.toInt32), (Value.int x1)]))
      refine own_isub X3 hx hby own_d9_26 ?_
      show own_G p e below s _ _ _ (T3.setTop (mkF m 27 #[.val (Value.ref a), .val (Value.int x1), .val Value.null, .val (Value.int x3), .val (Value.int (own_dn n V D x1 x3)), .unset] [(Value.int (n.toInt32 - (1 : Int32))), (Value.int x1)]))
      refine own_iand X3 hx hby own_d9_27 ?_
      show own_G p e below s _ _ _ (T3.setTop (mkF m 28 #[.val (Value.ref a), .val (Value.int x1), .val Value.null, .val (Value.int x3), .val (Value.int (own_dn n V D x1 x3)), .unset] [(Value.int (x1 &&& (n.toInt32 - (1 : Int32))))]))
      refine own_istore X3 hx hby own_d9_28 (l' := #[.val (Value.ref a), .val (Value.int x1), .val Value.null, .val (Value.int x3), .val (Value.int (own_dn n V D x1 x3)), .val (Value.int (x1 &&& (n.toInt32 - (1 : Int32))))]) rfl ?_
      show own_G p e below s _ _ _ (T3.setTop (mkF m 30 #[.val (Value.ref a), .val (Value.int x1), .val Value.null, .val (Value.int x3), .val (Value.int (own_dn n V D x1 x3)), .val (Value.int (x1 &&& (n.toInt32 - (1 : Int32))))] []))
      refine own_aloadN X3 hx hby own_d9_30 rfl rfl ?_
      show own_G p e below s _ _ _ (T3.setTop (mkF m 31 #[.val (Value.ref a), .val (Value.int x1), .val Value.null, .val (Value.int x3), .val (Value.int (own_dn n V D x1 x3)), .val (Value.int (x1 &&& (n.toInt32 - (1 : Int32))))] [(Value.ref a)]))
      obtain ⟨T4, X4, e4, st4⟩ := getF X3 hx hZ hown (host := "") (Or.inl (own_w33 hw)) Via.refl e3 F_v (g := (mkF m 31 #[.val (Value.ref a), .val (Value.int x1), .val Value.null, .val (Value.int x3), .val (Value.int (own_dn n V D x1 x3)), .val (Value.int (x1 &&& (n.toInt32 - (1 : Int32))))] [(Value.ref a)])) rfl rfl (hb hby own_d9_31)
      refine own_st st4 ?_
      show own_G p e below s _ _ _ (T4.setTop (mkF m 34 #[.val (Value.ref a), .val (Value.int x1), .val Value.null, .val (Value.int x3), .val (Value.int (own_dn n V D x1 x3)), .val (Value.int (x1 &&& (n.toInt32 - (1 : Int32))))] [(Value.ref kv)]))
      refine own_iload X4 hx hby own_d9_34 rfl ?_
      show own_G p e below s _ _ _ (T4.setTop (mkF m 36 #[.val (Value.ref a), .val (Value.int x1), .val Value.null, .val (Value.int x3), .val (Value.int (own_dn n V D x1 x3)), .val (Value.int (x1 &&& (n.toInt32 - (1 : Int32))))] [(Value.int (x1 &&& (n.toInt32 - (1 : Int32)))), (Value.ref kv)]))
      refine own_iaload X4 hx hby hZ e4 A_v (j := (x1 &&& (n.toInt32 - (1 : Int32)))) (i := (own_ix n x1)) (own_and_ix (n := n) hpw x1).1 (own_and_ix (n := n) hpw x1).2 own_d9_36 ?_
      show own_G p e below s _ _ _ (T4.setTop (mkF m 37 #[.val (Value.ref a), .val (Value.int x1), .val Value.null, .val (Value.int x3), .val (Value.int (own_dn n V D x1 x3)), .val (Value.int (x1 &&& (n.toInt32 - (1 : Int32))))] [(Value.int (V (own_ix n x1)))]))
      refine own_if_lt X4 hx hby own_d9_37 (pc' := 70) (by decide) (by decide) (fun hb5 => ?_) (fun hb5 => ?_)
      · show own_G p e below s _ _ _ (T4.setTop (mkF m 70 #[.val (Value.ref a), .val (Value.int x1), .val Value.null, .val (Value.int x3), .val (Value.int (own_dn n V D x1 x3)), .val (Value.int (x1 &&& (n.toInt32 - (1 : Int32))))] []))
        refine own_aloadN X4 hx hby own_d9_70 rfl rfl ?_
        show own_G p e below s _ _ _ (T4.setTop (mkF m 71 #[.val (Value.ref a), .val (Value.int x1), .val Value.null, .val (Value.int x3), .val (Value.int (own_dn n V D x1 x3)), .val (Value.int (x1 &&& (n.toInt32 - (1 : Int32))))] [(Value.ref a)]))
        obtain ⟨T6, X6, e6, st6⟩ := getF X4 hx hZ hown (host := "") (Or.inl (own_w33 hw)) Via.refl e4 F_v (g := (mkF m 71 #[.val (Value.ref a), .val (Value.int x1), .val Value.null, .val (Value.int x3), .val (Value.int (own_dn n V D x1 x3)), .val (Value.int (x1 &&& (n.toInt32 - (1 : Int32))))] [(Value.ref a)])) rfl rfl (hb hby own_d9_71)
        refine own_st st6 ?_
        show own_G p e below s _ _ _ (T6.setTop (mkF m 74 #[.val (Value.ref a), .val (Value.int x1), .val Value.null, .val (Value.int x3), .val (Value.int (own_dn n V D x1 x3)), .val (Value.int (x1 &&& (n.toInt32 - (1 : Int32))))] [(Value.ref kv)]))
        refine own_iload X6 hx hby own_d9_74 rfl ?_
        show own_G p e below s _ _ _ (T6.setTop (mkF m 76 #[.val (Value.ref a), .val (Value.int x1), .val Value.null, .val (Value.int x3), .val (Value.int (own_dn n V D x1 x3)), .val (Value.int (x1 &&& (n.toInt32 - (1 : Int32))))] [(Value.int (x1 &&& (n.toInt32 - (1 : Int32)))), (Value.ref kv)]))
        refine own_iloadN X6 hx hby own_d9_76 rfl ?_
        show own_G p e below s _ _ _ (T6.setTop (mkF m 77 #[.val (Value.ref a), .val (Value.int x1), .val Value.null, .val (Value.int x3), .val (Value.int (own_dn n V D x1 x3)), .val (Value.int (x1 &&& (n.toInt32 - (1 : Int32))))] [(Value.int x1), (Value.int (x1 &&& (n.toInt32 - (1 : Int32)))), (Value.ref kv)]))
        obtain ⟨T7, h7, X7, e7, W7, A7, st7⟩ := own_iastore X6 hx hby hZ e6 A_v (j := (x1 &&& (n.toInt32 - (1 : Int32)))) (i := (own_ix n x1)) (own_and_ix (n := n) hpw x1).1 (own_and_ix (n := n) hpw x1).2 (x := x1) own_d9_77 (Ls := #[.val (Value.ref a), .val (Value.int x1), .val Value.null, .val (Value.int x3), .val (Value.int (own_dn n V D x1 x3)), .val (Value.int (x1 &&& (n.toInt32 - (1 : Int32))))]) (st := [])
        have F8_a_limit := Fld.other W7 F_lim (Or.inl nav)
        have F8_a_vertices := Fld.other W7 F_v (Or.inl nav)
        have F8_a_lists := Fld.other W7 F_l (Or.inl nav)
        have F8_a_depths := Fld.other W7 F_d (Or.inl nav)
        have E8_a := Exa.wr W7 E_a
        have A8_kl := own_Ar.other A_l W7 (Ne.symm nvl)
        have A8_kd := own_Ar.other A_d W7 (Ne.symm nvd)
        have O8 := Old.wr O0 W7 gv
        have N7 := Fr.snoc X7 N2 gv
        have K7 := Keep.wr (Keep.refl h0 [a, kv, kl, kd]) W7 (Or.inl (List.mem_of_getElem? (i := 1) rfl))
        have A7n : own_Ar Z h7 kv .int n (fun j => Value.int ((own_up V (own_ix n x1) x1) j)) := own_Ar.fn A7 (by intro j _; simp only [own_set, own_up]; split <;> rfl)
        refine own_st st7 ?_
        show own_G p e below s _ _ _ (T7.setTop (mkF m 78 #[.val (Value.ref a), .val (Value.int x1), .val Value.null, .val (Value.int x3), .val (Value.int (own_dn n V D x1 x3)), .val (Value.int (x1 &&& (n.toInt32 - (1 : Int32))))] []))
        refine own_aloadN X7 hx hby own_d9_78 rfl rfl ?_
        show own_G p e below s _ _ _ (T7.setTop (mkF m 79 #[.val (Value.ref a), .val (Value.int x1), .val Value.null, .val (Value.int x3), .val (Value.int (own_dn n V D x1 x3)), .val (Value.int (x1 &&& (n.toInt32 - (1 : Int32))))] [(Value.ref a)]))
        obtain ⟨T9, X9, e9, st9⟩ := getF X7 hx hZ hown (host := "") (Or.inl (own_w37 hw)) Via.refl e7 F8_a_lists (g := (mkF m 79 #[.val (Value.ref a), .val (Value.int x1), .val Value.null, .val (Value.int x3), .val (Value.int (own_dn n V D x1 x3)), .val (Value.int (x1 &&& (n.toInt32 - (1 : Int32))))] [(Value.ref a)])) rfl rfl (hb hby own_d9_79)
        refine own_st st9 ?_
        show own_G p e below s _ _ _ (T9.setTop (mkF m 82 #[.val (Value.ref a), .val (Value.int x1), .val Value.null, .val (Value.int x3), .val (Value.int (own_dn n V D x1 x3)), .val (Value.int (x1 &&& (n.toInt32 - (1 : Int32))))] [(Value.ref kl)]))
        refine own_iload X9 hx hby own_d9_82 rfl ?_
        show own_G p e below s _ _ _ (T9.setTop (mkF m 84 #[.val (Value.ref a), .val (Value.int x1), .val Value.null, .val (Value.int x3), .val (Value.int (own_dn n V D x1 x3)), .val (Value.int (x1 &&& (n.toInt32 - (1 : Int32))))] [(Value.int (x1 &&& (n.toInt32 - (1 : Int32)))), (Value.ref kl)]))
        refine own_aloadN X9 hx hby own_d9_84 rfl rfl ?_
        show own_G p e below s _ _ _ (T9.setTop (mkF m 85 #[.val (Value.ref a), .val (Value.int x1), .val Value.null, .val (Value.int x3), .val (Value.int (own_dn n V D x1 x3)), .val (Value.int (x1 &&& (n.toInt32 - (1 : Int32))))] [Value.null, (Value.int (x1 &&& (n.toInt32 - (1 : Int32)))), (Value.ref kl)]))
        obtain ⟨T10, h10, X10, e10, W10, A10, st10⟩ := own_aastore X9 hx hby hZ e9 A8_kl rfl (j := (x1 &&& (n.toInt32 - (1 : Int32)))) (i := (own_ix n x1)) (own_and_ix (n := n) hpw x1).1 (own_and_ix (n := n) hpw x1).2 (Or.inl rfl) own_d9_85 (Ls := #[.val (Value.ref a), .val (Value.int x1), .val Value.null, .val (Value.int x3), .val (Value.int (own_dn n V D x1 x3)), .val (Value.int (x1 &&& (n.toInt32 - (1 : Int32))))]) (st := [])
        have F11_a_limit := Fld.other W10 F8_a_limit (Or.inl nal)
        have F11_a_vertices := Fld.other W10 F8_a_vertices (Or.inl nal)
        have F11_a_lists := Fld.other W10 F8_a_lists (Or.inl nal)
        have F11_a_depths := Fld.other W10 F8_a_depths (Or.inl nal)
        have E11_a := Exa.wr W10 E8_a
        have A11_kv := own_Ar.other A7n W10 nvl
        have A11_kd := own_Ar.other A8_kd W10 (Ne.symm nld)
        have O11 := Old.wr O8 W10 gl
        have N10 := Fr.snoc X10 N7 gl
        have K10 := Keep.wr K7 W10 (Or.inl (List.mem_of_getElem? (i := 2) rfl))
        have A10n : own_Ar Z h10 kl (.array .int) n (fun _ => Value.null) := own_Ar.fn A10 (by intro j _; simp only [own_set]; split <;> rfl)
        refine own_st st10 ?_
        show own_G p e below s _ _ _ (T10.setTop (mkF m 86 #[.val (Value.ref a), .val (Value.int x1), .val Value.null, .val (Value.int x3), .val (Value.int (own_dn n V D x1 x3)), .val (Value.int (x1 &&& (n.toInt32 - (1 : Int32))))] []))
        refine own_aloadN X10 hx hby own_d9_86 rfl rfl ?_
        show own_G p e below s _ _ _ (T10.setTop (mkF m 87 #[.val (Value.ref a), .val (Value.int x1), .val Value.null, .val (Value.int x3), .val (Value.int (own_dn n V D x1 x3)), .val (Value.int (x1 &&& (n.toInt32 - (1 : Int32))))] [(Value.ref a)]))
        obtain ⟨T12, X12, e12, st12⟩ := getF X10 hx hZ hown (host := "") (Or.inl (own_w39 hw)) Via.refl e10 F11_a_depths (g := (mkF m 87 #[.val (Value.ref a), .val (Value.int x1), .val Value.null, .val (Value.int x3), .val (Value.int (own_dn n V D x1 x3)), .val (Value.int (x1 &&& (n.toInt32 - (1 : Int32))))] [(Value.ref a)])) rfl rfl (hb hby own_d9_87)
        refine own_st st12 ?_
        show own_G p e below s _ _ _ (T12.setTop (mkF m 90 #[.val (Value.ref a), .val (Value.int x1), .val Value.null, .val (Value.int x3), .val (Value.int (own_dn n V D x1 x3)), .val (Value.int (x1 &&& (n.toInt32 - (1 : Int32))))] [(Value.ref kd)]))
        refine own_iload X12 hx hby own_d9_90 rfl ?_
        show own_G p e below s _ _ _ (T12.setTop (mkF m 92 #[.val (Value.ref a), .val (Value.int x1), .val Value.null, .val (Value.int x3), .val (Value.int (own_dn n V D x1 x3)), .val (Value.int (x1 &&& (n.toInt32 - (1 : Int32))))] [(Value.int (x1 &&& (n.toInt32 - (1 : Int32)))), (Value.ref kd)]))
        refine own_iload X12 hx hby own_d9_92 rfl ?_
        show own_G p e below s _ _ _ (T12.setTop (mkF m 94 #[.val (Value.ref a), .val (Value.int x1), .val Value.null, .val (Value.int x3), .val (Value.int (own_dn n V D x1 x3)), .val (Value.int (x1 &&& (n.toInt32 - (1 : Int32))))] [(Value.int (own_dn n V D x1 x3)), (Value.int (x1 &&& (n.toInt32 - (1 : Int32)))), (Value.ref kd)]))
        obtain ⟨T13, h13, X13, e13, W13, A13, st13⟩ := own_iastore X12 hx hby hZ e12 A11_kd (j := (x1 &&& (n.toInt32 - (1 : Int32)))) (i := (own_ix n x1)) (own_and_ix (n := n) hpw x1).1 (own_and_ix (n := n) hpw x1).2 (x := (own_dn n V D x1 x3)) own_d9_94 (Ls := #[.val (Value.ref a), .val (Value.int x1), .val Value.null, .val (Value.int x3), .val (Value.int (own_dn n V D x1 x3)), .val (Value.int (x1 &&& (n.toInt32 - (1 : Int32))))]) (st := [])
        have F14_a_limit := Fld.other W13 F11_a_limit (Or.inl nad)
        have F14_a_vertices := Fld.other W13 F11_a_vertices (Or.inl nad)
        have F14_a_lists := Fld.other W13 F11_a_lists (Or.inl nad)
        have F14_a_depths := Fld.other W13 F11_a_depths (Or.inl nad)
        have E14_a := Exa.wr W13 E11_a
        have A14_kv := own_Ar.other A11_kv W13 nvd
        have A14_kl := own_Ar.other A10n W13 nld
        have O14 := Old.wr O11 W13 gd
        have N13 := Fr.snoc X13 N10 gd
        have K13 := Keep.wr K10 W13 (Or.inl (List.mem_of_getElem? (i := 3) rfl))
        have A13n : own_Ar Z h13 kd .int n (fun j => Value.int ((own_up D (own_ix n x1) (own_dn n V D x1 x3)) j)) := own_Ar.fn A13 (by intro j _; simp only [own_set, own_up]; split <;> rfl)
        refine own_st st13 ?_
        show own_G p e below s _ _ _ (T13.setTop (mkF m 95 #[.val (Value.ref a), .val (Value.int x1), .val Value.null, .val (Value.int x3), .val (Value.int (own_dn n V D x1 x3)), .val (Value.int (x1 &&& (n.toInt32 - (1 : Int32))))] []))
        refine own_ret0 X13 hx hby hlk Bd.returns own_d9_95 (by decide) (by decide) ?_
        show own_rmKG_Q Z a x1 x3 lim kv kl kd n V D h0 n0 _ T13.heap _
        rw [e13]
        exact ⟨rfl, N13, K13, kv, kl, kd, _, _, _, hpw, (Or.inl hl), own_put (own_pw_pos hpw).1 hI hv0 (Or.inl hl), E14_a, F14_a_limit, F14_a_vertices, F14_a_lists, F14_a_depths, A14_kv, A14_kl, A13n, gv, gl, gd, nav, nal, nad, nvl, nvd, nld⟩
      · show own_G p e below s _ _ _ (T4.setTop (mkF m 40 #[.val (Value.ref a), .val (Value.int x1), .val Value.null, .val (Value.int x3), .val (Value.int (own_dn n V D x1 x3)), .val (Value.int (x1 &&& (n.toInt32 - (1 : Int32))))] []))
        refine own_aloadN X4 hx hby own_d9_40 rfl rfl ?_
        show own_G p e below s _ _ _ (T4.setTop (mkF m 41 #[.val (Value.ref a), .val (Value.int x1), .val Value.null, .val (Value.int x3), .val (Value.int (own_dn n V D x1 x3)), .val (Value.int (x1 &&& (n.toInt32 - (1 : Int32))))] [(Value.ref a)]))
        obtain ⟨T15, X15, e15, st15⟩ := getF X4 hx hZ hown (host := "") (Or.inl (own_w33 hw)) Via.refl e4 F_v (g := (mkF m 41 #[.val (Value.ref a), .val (Value.int x1), .val Value.null, .val (Value.int x3), .val (Value.int (own_dn n V D x1 x3)), .val (Value.int (x1 &&& (n.toInt32 - (1 : Int32))))] [(Value.ref a)])) rfl rfl (hb hby own_d9_41)
        refine own_st st15 ?_
        show own_G p e below s _ _ _ (T15.setTop (mkF m 44 #[.val (Value.ref a), .val (Value.int x1), .val Value.null, .val (Value.int x3), .val (Value.int (own_dn n V D x1 x3)), .val (Value.int (x1 &&& (n.toInt32 - (1 : Int32))))] [(Value.ref kv)]))
        refine own_alen X15 hx hby hZ e15 A_v own_d9_44 ?_
        show own_G p e below s _ _ _ (T15.setTop (mkF m 45 #[.val (Value.ref a), .val (Value.int x1), .val Value.null, .val (Value.int x3), .val (Value.int (own_dn n V D x1 x3)), .val (Value.int (x1 &&& (n.toInt32 - (1 : Int32))))] [(Value.int n.toInt32)]))
        refine own_aloadN X15 hx hby own_d9_45 rfl rfl ?_
        show own_G p e below s _ _ _ (T15.setTop (mkF m 46 #[.val (Value.ref a), .val (Value.int x1), .val Value.null, .val (Value.int x3), .val (Value.int (own_dn n V D x1 x3)), .val (Value.int (x1 &&& (n.toInt32 - (1 : Int32))))] [(Value.ref a), (Value.int n.toInt32)]))
        obtain ⟨T16, X16, e16, st16⟩ := getF X15 hx hZ hown (host := "") (Or.inl (own_w27 hw)) Via.refl e15 F_lim (g := (mkF m 46 #[.val (Value.ref a), .val (Value.int x1), .val Value.null, .val (Value.int x3), .val (Value.int (own_dn n V D x1 x3)), .val (Value.int (x1 &&& (n.toInt32 - (1 : Int32))))] [(Value.ref a), (Value.int n.toInt32)])) rfl rfl (hb hby own_d9_46)
        refine own_st st16 ?_
        show own_G p e below s _ _ _ (T16.setTop (mkF m 49 #[.val (Value.ref a), .val (Value.int x1), .val Value.null, .val (Value.int x3), .val (Value.int (own_dn n V D x1 x3)), .val (Value.int (x1 &&& (n.toInt32 - (1 : Int32))))] [(Value.int lim), (Value.int n.toInt32)]))
        refine own_icmp_ge X16 hx hby own_d9_49 (pc' := 70) (by decide) (by decide) (fun hb17 => ?_) (fun hb17 => by exfalso; rw [Int32.lt_iff_toInt_lt, (own_small (own_pw_pos hpw).2).1] at hb17; omega)
        show own_G p e below s _ _ _ (T16.setTop (mkF m 70 #[.val (Value.ref a), .val (Value.int x1), .val Value.null, .val (Value.int x3), .val (Value.int (own_dn n V D x1 x3)), .val (Value.int (x1 &&& (n.toInt32 - (1 : Int32))))] []))
        refine own_aloadN X16 hx hby own_d9_70 rfl rfl ?_
        show own_G p e below s _ _ _ (T16.setTop (mkF m 71 #[.val (Value.ref a), .val (Value.int x1), .val Value.null, .val (Value.int x3), .val (Value.int (own_dn n V D x1 x3)), .val (Value.int (x1 &&& (n.toInt32 - (1 : Int32))))] [(Value.ref a)]))
        obtain ⟨T18, X18, e18, st18⟩ := getF X16 hx hZ hown (host := "") (Or.inl (own_w33 hw)) Via.refl e16 F_v (g := (mkF m 71 #[.val (Value.ref a), .val (Value.int x1), .val Value.null, .val (Value.int x3), .val (Value.int (own_dn n V D x1 x3)), .val (Value.int (x1 &&& (n.toInt32 - (1 : Int32))))] [(Value.ref a)])) rfl rfl (hb hby own_d9_71)
        refine own_st st18 ?_
        show own_G p e below s _ _ _ (T18.setTop (mkF m 74 #[.val (Value.ref a), .val (Value.int x1), .val Value.null, .val (Value.int x3), .val (Value.int (own_dn n V D x1 x3)), .val (Value.int (x1 &&& (n.toInt32 - (1 : Int32))))] [(Value.ref kv)]))
        refine own_iload X18 hx hby own_d9_74 rfl ?_
        show own_G p e below s _ _ _ (T18.setTop (mkF m 76 #[.val (Value.ref a), .val (Value.int x1), .val Value.null, .val (Value.int x3), .val (Value.int (own_dn n V D x1 x3)), .val (Value.int (x1 &&& (n.toInt32 - (1 : Int32))))] [(Value.int (x1 &&& (n.toInt32 - (1 : Int32)))), (Value.ref kv)]))
        refine own_iloadN X18 hx hby own_d9_76 rfl ?_
        show own_G p e below s _ _ _ (T18.setTop (mkF m 77 #[.val (Value.ref a), .val (Value.int x1), .val Value.null, .val (Value.int x3), .val (Value.int (own_dn n V D x1 x3)), .val (Value.int (x1 &&& (n.toInt32 - (1 : Int32))))] [(Value.int x1), (Value.int (x1 &&& (n.toInt32 - (1 : Int32)))), (Value.ref kv)]))
        obtain ⟨T19, h19, X19, e19, W19, A19, st19⟩ := own_iastore X18 hx hby hZ e18 A_v (j := (x1 &&& (n.toInt32 - (1 : Int32)))) (i := (own_ix n x1)) (own_and_ix (n := n) hpw x1).1 (own_and_ix (n := n) hpw x1).2 (x := x1) own_d9_77 (Ls := #[.val (Value.ref a), .val (Value.int x1), .val Value.null, .val (Value.int x3), .val (Value.int (own_dn n V D x1 x3)), .val (Value.int (x1 &&& (n.toInt32 - (1 : Int32))))]) (st := [])
        have F20_a_limit := Fld.other W19 F_lim (Or.inl nav)
        have F20_a_vertices := Fld.other W19 F_v (Or.inl nav)
        have F20_a_lists := Fld.other W19 F_l (Or.inl nav)
        have F20_a_depths := Fld.other W19 F_d (Or.inl nav)
        have E20_a := Exa.wr W19 E_a
        have A20_kl := own_Ar.other A_l W19 (Ne.symm nvl)
        have A20_kd := own_Ar.other A_d W19 (Ne.symm nvd)
        have O20 := Old.wr O0 W19 gv
        have N19 := Fr.snoc X19 N2 gv
        have K19 := Keep.wr (Keep.refl h0 [a, kv, kl, kd]) W19 (Or.inl (List.mem_of_getElem? (i := 1) rfl))
        have A19n : own_Ar Z h19 kv .int n (fun j => Value.int ((own_up V (own_ix n x1) x1) j)) := own_Ar.fn A19 (by intro j _; simp only [own_set, own_up]; split <;> rfl)
        refine own_st st19 ?_
        show own_G p e below s _ _ _ (T19.setTop (mkF m 78 #[.val (Value.ref a), .val (Value.int x1), .val Value.null, .val (Value.int x3), .val (Value.int (own_dn n V D x1 x3)), .val (Value.int (x1 &&& (n.toInt32 - (1 : Int32))))] []))
        refine own_aloadN X19 hx hby own_d9_78 rfl rfl ?_
        show own_G p e below s _ _ _ (T19.setTop (mkF m 79 #[.val (Value.ref a), .val (Value.int x1), .val Value.null, .val (Value.int x3), .val (Value.int (own_dn n V D x1 x3)), .val (Value.int (x1 &&& (n.toInt32 - (1 : Int32))))] [(Value.ref a)]))
        obtain ⟨T21, X21, e21, st21⟩ := getF X19 hx hZ hown (host := "") (Or.inl (own_w37 hw)) Via.refl e19 F20_a_lists (g := (mkF m 79 #[.val (Value.ref a), .val (Value.int x1), .val Value.null, .val (Value.int x3), .val (Value.int (own_dn n V D x1 x3)), .val (Value.int (x1 &&& (n.toInt32 - (1 : Int32))))] [(Value.ref a)])) rfl rfl (hb hby own_d9_79)
        refine own_st st21 ?_
        show own_G p e below s _ _ _ (T21.setTop (mkF m 82 #[.val (Value.ref a), .val (Value.int x1), .val Value.null, .val (Value.int x3), .val (Value.int (own_dn n V D x1 x3)), .val (Value.int (x1 &&& (n.toInt32 - (1 : Int32))))] [(Value.ref kl)]))
        refine own_iload X21 hx hby own_d9_82 rfl ?_
        show own_G p e below s _ _ _ (T21.setTop (mkF m 84 #[.val (Value.ref a), .val (Value.int x1), .val Value.null, .val (Value.int x3), .val (Value.int (own_dn n V D x1 x3)), .val (Value.int (x1 &&& (n.toInt32 - (1 : Int32))))] [(Value.int (x1 &&& (n.toInt32 - (1 : Int32)))), (Value.ref kl)]))
        refine own_aloadN X21 hx hby own_d9_84 rfl rfl ?_
        show own_G p e below s _ _ _ (T21.setTop (mkF m 85 #[.val (Value.ref a), .val (Value.int x1), .val Value.null, .val (Value.int x3), .val (Value.int (own_dn n V D x1 x3)), .val (Value.int (x1 &&& (n.toInt32 - (1 : Int32))))] [Value.null, (Value.int (x1 &&& (n.toInt32 - (1 : Int32)))), (Value.ref kl)]))
        obtain ⟨T22, h22, X22, e22, W22, A22, st22⟩ := own_aastore X21 hx hby hZ e21 A20_kl rfl (j := (x1 &&& (n.toInt32 - (1 : Int32)))) (i := (own_ix n x1)) (own_and_ix (n := n) hpw x1).1 (own_and_ix (n := n) hpw x1).2 (Or.inl rfl) own_d9_85 (Ls := #[.val (Value.ref a), .val (Value.int x1), .val Value.null, .val (Value.int x3), .val (Value.int (own_dn n V D x1 x3)), .val (Value.int (x1 &&& (n.toInt32 - (1 : Int32))))]) (st := [])
        have F23_a_limit := Fld.other W22 F20_a_limit (Or.inl nal)
        have F23_a_vertices := Fld.other W22 F20_a_vertices (Or.inl nal)
        have F23_a_lists := Fld.other W22 F20_a_lists (Or.inl nal)
        have F23_a_depths := Fld.other W22 F20_a_depths (Or.inl nal)
        have E23_a := Exa.wr W22 E20_a
        have A23_kv := own_Ar.other A19n W22 nvl
        have A23_kd := own_Ar.other A20_kd W22 (Ne.symm nld)
        have O23 := Old.wr O20 W22 gl
        have N22 := Fr.snoc X22 N19 gl
        have K22 := Keep.wr K19 W22 (Or.inl (List.mem_of_getElem? (i := 2) rfl))
        have A22n : own_Ar Z h22 kl (.array .int) n (fun _ => Value.null) := own_Ar.fn A22 (by intro j _; simp only [own_set]; split <;> rfl)
        refine own_st st22 ?_
        show own_G p e below s _ _ _ (T22.setTop (mkF m 86 #[.val (Value.ref a), .val (Value.int x1), .val Value.null, .val (Value.int x3), .val (Value.int (own_dn n V D x1 x3)), .val (Value.int (x1 &&& (n.toInt32 - (1 : Int32))))] []))
        refine own_aloadN X22 hx hby own_d9_86 rfl rfl ?_
        show own_G p e below s _ _ _ (T22.setTop (mkF m 87 #[.val (Value.ref a), .val (Value.int x1), .val Value.null, .val (Value.int x3), .val (Value.int (own_dn n V D x1 x3)), .val (Value.int (x1 &&& (n.toInt32 - (1 : Int32))))] [(Value.ref a)]))
        obtain ⟨T24, X24, e24, st24⟩ := getF X22 hx hZ hown (host := "") (Or.inl (own_w39 hw)) Via.refl e22 F23_a_depths (g := (mkF m 87 #[.val (Value.ref a), .val (Value.int x1), .val Value.null, .val (Value.int x3), .val (Value.int (own_dn n V D x1 x3)), .val (Value.int (x1 &&& (n.toInt32 - (1 : Int32))))] [(Value.ref a)])) rfl rfl (hb hby own_d9_87)
        refine own_st st24 ?_
        show own_G p e below s _ _ _ (T24.setTop (mkF m 90 #[.val (Value.ref a), .val (Value.int x1), .val Value.null, .val (Value.int x3), .val (Value.int (own_dn n V D x1 x3)), .val (Value.int (x1 &&& (n.toInt32 - (1 : Int32))))] [(Value.ref kd)]))
        refine own_iload X24 hx hby own_d9_90 rfl ?_
        show own_G p e below s _ _ _ (T24.setTop (mkF m 92 #[.val (Value.ref a), .val (Value.int x1), .val Value.null, .val (Value.int x3), .val (Value.int (own_dn n V D x1 x3)), .val (Value.int (x1 &&& (n.toInt32 - (1 : Int32))))] [(Value.int (x1 &&& (n.toInt32 - (1 : Int32)))), (Value.ref kd)]))
        refine own_iload X24 hx hby own_d9_92 rfl ?_
        show own_G p e below s _ _ _ (T24.setTop (mkF m 94 #[.val (Value.ref a), .val (Value.int x1), .val Value.null, .val (Value.int x3), .val (Value.int (own_dn n V D x1 x3)), .val (Value.int (x1 &&& (n.toInt32 - (1 : Int32))))] [(Value.int (own_dn n V D x1 x3)), (Value.int (x1 &&& (n.toInt32 - (1 : Int32)))), (Value.ref kd)]))
        obtain ⟨T25, h25, X25, e25, W25, A25, st25⟩ := own_iastore X24 hx hby hZ e24 A23_kd (j := (x1 &&& (n.toInt32 - (1 : Int32)))) (i := (own_ix n x1)) (own_and_ix (n := n) hpw x1).1 (own_and_ix (n := n) hpw x1).2 (x := (own_dn n V D x1 x3)) own_d9_94 (Ls := #[.val (Value.ref a), .val (Value.int x1), .val Value.null, .val (Value.int x3), .val (Value.int (own_dn n V D x1 x3)), .val (Value.int (x1 &&& (n.toInt32 - (1 : Int32))))]) (st := [])
        have F26_a_limit := Fld.other W25 F23_a_limit (Or.inl nad)
        have F26_a_vertices := Fld.other W25 F23_a_vertices (Or.inl nad)
        have F26_a_lists := Fld.other W25 F23_a_lists (Or.inl nad)
        have F26_a_depths := Fld.other W25 F23_a_depths (Or.inl nad)
        have E26_a := Exa.wr W25 E23_a
        have A26_kv := own_Ar.other A23_kv W25 nvd
        have A26_kl := own_Ar.other A22n W25 nld
        have O26 := Old.wr O23 W25 gd
        have N25 := Fr.snoc X25 N22 gd
        have K25 := Keep.wr K22 W25 (Or.inl (List.mem_of_getElem? (i := 3) rfl))
        have A25n : own_Ar Z h25 kd .int n (fun j => Value.int ((own_up D (own_ix n x1) (own_dn n V D x1 x3)) j)) := own_Ar.fn A25 (by intro j _; simp only [own_set, own_up]; split <;> rfl)
        refine own_st st25 ?_
        show own_G p e below s _ _ _ (T25.setTop (mkF m 95 #[.val (Value.ref a), .val (Value.int x1), .val Value.null, .val (Value.int x3), .val (Value.int (own_dn n V D x1 x3)), .val (Value.int (x1 &&& (n.toInt32 - (1 : Int32))))] []))
        refine own_ret0 X25 hx hby hlk Bd.returns own_d9_95 (by decide) (by decide) ?_
        show own_rmKG_Q Z a x1 x3 lim kv kl kd n V D h0 n0 _ T25.heap _
        rw [e25]
        exact ⟨rfl, N25, K25, kv, kl, kd, _, _, _, hpw, (Or.inl hl), own_put (own_pw_pos hpw).1 hI hv0 (Or.inl hl), E26_a, F26_a_limit, F26_a_vertices, F26_a_lists, F26_a_depths, A26_kv, A26_kl, A25n, gv, gl, gd, nav, nal, nad, nvl, nvd, nld⟩
    · show own_G p e below s _ _ _ (s₁.setTop (mkF m 4 #[.val (Value.ref a), .val (Value.int x1), .val Value.null, .val (Value.int x3), .unset, .unset] []))
      refine own_iconst X0 hx hby own_d9_4 ?_
      show own_G p e below s _ _ _ (s₁.setTop (mkF m 5 #[.val (Value.ref a), .val (Value.int x1), .val Value.null, .val (Value.int x3), .unset, .unset] [(Value.int (0 : Int32))]))
      refine own_goto X0 hx hby own_d9_5 (pc' := 17) (by decide) (by decide) ?_
      show own_G p e below s _ _ _ (s₁.setTop (mkF m 17 #[.val (Value.ref a), .val (Value.int x1), .val Value.null, .val (Value.int x3), .unset, .unset] [(Value.int (0 : Int32))]))
      rw [show ((0 : Int32) : Int32) = (own_dn n V D x1 x3) from (if_pos hb1).symm]
      refine own_istore X0 hx hby own_d9_17 (l' := #[.val (Value.ref a), .val (Value.int x1), .val Value.null, .val (Value.int x3), .val (Value.int (own_dn n V D x1 x3)), .unset]) rfl ?_
      show own_G p e below s _ _ _ (s₁.setTop (mkF m 19 #[.val (Value.ref a), .val (Value.int x1), .val Value.null, .val (Value.int x3), .val (Value.int (own_dn n V D x1 x3)), .unset] []))
      refine own_iloadN X0 hx hby own_d9_19 rfl ?_
      show own_G p e below s _ _ _ (s₁.setTop (mkF m 20 #[.val (Value.ref a), .val (Value.int x1), .val Value.null, .val (Value.int x3), .val (Value.int (own_dn n V D x1 x3)), .unset] [(Value.int x1)]))
      refine own_aloadN X0 hx hby own_d9_20 rfl rfl ?_
      show own_G p e below s _ _ _ (s₁.setTop (mkF m 21 #[.val (Value.ref a), .val (Value.int x1), .val Value.null, .val (Value.int x3), .val (Value.int (own_dn n V D x1 x3)), .unset] [(Value.ref a), (Value.int x1)]))
      obtain ⟨T27, X27, e27, st27⟩ := getF X0 hx hZ hown (host := "") (Or.inl (own_w33 hw)) Via.refl e0 F_v (g := (mkF m 21 #[.val (Value.ref a), .val (Value.int x1), .val Value.null, .val (Value.int x3), .val (Value.int (own_dn n V D x1 x3)), .unset] [(Value.ref a), (Value.int x1)])) rfl rfl (hb hby own_d9_21)
      refine own_st st27 ?_
      show own_G p e below s _ _ _ (T27.setTop (mkF m 24 #[.val (Value.ref a), .val (Value.int x1), .val Value.null, .val (Value.int x3), .val (Value.int (own_dn n V D x1 x3)), .unset] [(Value.ref kv), (Value.int x1)]))
      refine own_alen X27 hx hby hZ e27 A_v own_d9_24 ?_
      show own_G p e below s _ _ _ (T27.setTop (mkF m 25 #[.val (Value.ref a), .val (Value.int x1), .val Value.null, .val (Value.int x3), .val (Value.int (own_dn n V D x1 x3)), .unset] [(Value.int n.toInt32), (Value.int x1)]))
      refine own_iconst X27 hx hby own_d9_25 ?_
      show own_G p e below s _ _ _ (T27.setTop (mkF m 26 #[.val (Value.ref a), .val (Value.int x1), .val Value.null, .val (Value.int x3), .val (Value.int (own_dn n V D x1 x3)), .unset] [(Value.int (1 : Int32)), (Value.int n.toInt32), (Value.int x1)]))
      refine own_isub X27 hx hby own_d9_26 ?_
      show own_G p e below s _ _ _ (T27.setTop (mkF m 27 #[.val (Value.ref a), .val (Value.int x1), .val Value.null, .val (Value.int x3), .val (Value.int (own_dn n V D x1 x3)), .unset] [(Value.int (n.toInt32 - (1 : Int32))), (Value.int x1)]))
      refine own_iand X27 hx hby own_d9_27 ?_
      show own_G p e below s _ _ _ (T27.setTop (mkF m 28 #[.val (Value.ref a), .val (Value.int x1), .val Value.null, .val (Value.int x3), .val (Value.int (own_dn n V D x1 x3)), .unset] [(Value.int (x1 &&& (n.toInt32 - (1 : Int32))))]))
      refine own_istore X27 hx hby own_d9_28 (l' := #[.val (Value.ref a), .val (Value.int x1), .val Value.null, .val (Value.int x3), .val (Value.int (own_dn n V D x1 x3)), .val (Value.int (x1 &&& (n.toInt32 - (1 : Int32))))]) rfl ?_
      show own_G p e below s _ _ _ (T27.setTop (mkF m 30 #[.val (Value.ref a), .val (Value.int x1), .val Value.null, .val (Value.int x3), .val (Value.int (own_dn n V D x1 x3)), .val (Value.int (x1 &&& (n.toInt32 - (1 : Int32))))] []))
      refine own_aloadN X27 hx hby own_d9_30 rfl rfl ?_
      show own_G p e below s _ _ _ (T27.setTop (mkF m 31 #[.val (Value.ref a), .val (Value.int x1), .val Value.null, .val (Value.int x3), .val (Value.int (own_dn n V D x1 x3)), .val (Value.int (x1 &&& (n.toInt32 - (1 : Int32))))] [(Value.ref a)]))
      obtain ⟨T28, X28, e28, st28⟩ := getF X27 hx hZ hown (host := "") (Or.inl (own_w33 hw)) Via.refl e27 F_v (g := (mkF m 31 #[.val (Value.ref a), .val (Value.int x1), .val Value.null, .val (Value.int x3), .val (Value.int (own_dn n V D x1 x3)), .val (Value.int (x1 &&& (n.toInt32 - (1 : Int32))))] [(Value.ref a)])) rfl rfl (hb hby own_d9_31)
      refine own_st st28 ?_
      show own_G p e below s _ _ _ (T28.setTop (mkF m 34 #[.val (Value.ref a), .val (Value.int x1), .val Value.null, .val (Value.int x3), .val (Value.int (own_dn n V D x1 x3)), .val (Value.int (x1 &&& (n.toInt32 - (1 : Int32))))] [(Value.ref kv)]))
      refine own_iload X28 hx hby own_d9_34 rfl ?_
      show own_G p e below s _ _ _ (T28.setTop (mkF m 36 #[.val (Value.ref a), .val (Value.int x1), .val Value.null, .val (Value.int x3), .val (Value.int (own_dn n V D x1 x3)), .val (Value.int (x1 &&& (n.toInt32 - (1 : Int32))))] [(Value.int (x1 &&& (n.toInt32 - (1 : Int32)))), (Value.ref kv)]))
      refine own_iaload X28 hx hby hZ e28 A_v (j := (x1 &&& (n.toInt32 - (1 : Int32)))) (i := (own_ix n x1)) (own_and_ix (n := n) hpw x1).1 (own_and_ix (n := n) hpw x1).2 own_d9_36 ?_
      show own_G p e below s _ _ _ (T28.setTop (mkF m 37 #[.val (Value.ref a), .val (Value.int x1), .val Value.null, .val (Value.int x3), .val (Value.int (own_dn n V D x1 x3)), .val (Value.int (x1 &&& (n.toInt32 - (1 : Int32))))] [(Value.int (V (own_ix n x1)))]))
      refine own_if_lt X28 hx hby own_d9_37 (pc' := 70) (by decide) (by decide) (fun hb29 => ?_) (fun hb29 => ?_)
      · show own_G p e below s _ _ _ (T28.setTop (mkF m 70 #[.val (Value.ref a), .val (Value.int x1), .val Value.null, .val (Value.int x3), .val (Value.int (own_dn n V D x1 x3)), .val (Value.int (x1 &&& (n.toInt32 - (1 : Int32))))] []))
        refine own_aloadN X28 hx hby own_d9_70 rfl rfl ?_
        show own_G p e below s _ _ _ (T28.setTop (mkF m 71 #[.val (Value.ref a), .val (Value.int x1), .val Value.null, .val (Value.int x3), .val (Value.int (own_dn n V D x1 x3)), .val (Value.int (x1 &&& (n.toInt32 - (1 : Int32))))] [(Value.ref a)]))
        obtain ⟨T30, X30, e30, st30⟩ := getF X28 hx hZ hown (host := "") (Or.inl (own_w33 hw)) Via.refl e28 F_v (g := (mkF m 71 #[.val (Value.ref a), .val (Value.int x1), .val Value.null, .val (Value.int x3), .val (Value.int (own_dn n V D x1 x3)), .val (Value.int (x1 &&& (n.toInt32 - (1 : Int32))))] [(Value.ref a)])) rfl rfl (hb hby own_d9_71)
        refine own_st st30 ?_
        show own_G p e below s _ _ _ (T30.setTop (mkF m 74 #[.val (Value.ref a), .val (Value.int x1), .val Value.null, .val (Value.int x3), .val (Value.int (own_dn n V D x1 x3)), .val (Value.int (x1 &&& (n.toInt32 - (1 : Int32))))] [(Value.ref kv)]))
        refine own_iload X30 hx hby own_d9_74 rfl ?_
        show own_G p e below s _ _ _ (T30.setTop (mkF m 76 #[.val (Value.ref a), .val (Value.int x1), .val Value.null, .val (Value.int x3), .val (Value.int (own_dn n V D x1 x3)), .val (Value.int (x1 &&& (n.toInt32 - (1 : Int32))))] [(Value.int (x1 &&& (n.toInt32 - (1 : Int32)))), (Value.ref kv)]))
        refine own_iloadN X30 hx hby own_d9_76 rfl ?_
        show own_G p e below s _ _ _ (T30.setTop (mkF m 77 #[.val (Value.ref a), .val (Value.int x1), .val Value.null, .val (Value.int x3), .val (Value.int (own_dn n V D x1 x3)), .val (Value.int (x1 &&& (n.toInt32 - (1 : Int32))))] [(Value.int x1), (Value.int (x1 &&& (n.toInt32 - (1 : Int32)))), (Value.ref kv)]))
        obtain ⟨T31, h31, X31, e31, W31, A31, st31⟩ := own_iastore X30 hx hby hZ e30 A_v (j := (x1 &&& (n.toInt32 - (1 : Int32)))) (i := (own_ix n x1)) (own_and_ix (n := n) hpw x1).1 (own_and_ix (n := n) hpw x1).2 (x := x1) own_d9_77 (Ls := #[.val (Value.ref a), .val (Value.int x1), .val Value.null, .val (Value.int x3), .val (Value.int (own_dn n V D x1 x3)), .val (Value.int (x1 &&& (n.toInt32 - (1 : Int32))))]) (st := [])
        have F32_a_limit := Fld.other W31 F_lim (Or.inl nav)
        have F32_a_vertices := Fld.other W31 F_v (Or.inl nav)
        have F32_a_lists := Fld.other W31 F_l (Or.inl nav)
        have F32_a_depths := Fld.other W31 F_d (Or.inl nav)
        have E32_a := Exa.wr W31 E_a
        have A32_kl := own_Ar.other A_l W31 (Ne.symm nvl)
        have A32_kd := own_Ar.other A_d W31 (Ne.symm nvd)
        have O32 := Old.wr O0 W31 gv
        have N31 := Fr.snoc X31 N0 gv
        have K31 := Keep.wr (Keep.refl h0 [a, kv, kl, kd]) W31 (Or.inl (List.mem_of_getElem? (i := 1) rfl))
        have A31n : own_Ar Z h31 kv .int n (fun j => Value.int ((own_up V (own_ix n x1) x1) j)) := own_Ar.fn A31 (by intro j _; simp only [own_set, own_up]; split <;> rfl)
        refine own_st st31 ?_
        show own_G p e below s _ _ _ (T31.setTop (mkF m 78 #[.val (Value.ref a), .val (Value.int x1), .val Value.null, .val (Value.int x3), .val (Value.int (own_dn n V D x1 x3)), .val (Value.int (x1 &&& (n.toInt32 - (1 : Int32))))] []))
        refine own_aloadN X31 hx hby own_d9_78 rfl rfl ?_
        show own_G p e below s _ _ _ (T31.setTop (mkF m 79 #[.val (Value.ref a), .val (Value.int x1), .val Value.null, .val (Value.int x3), .val (Value.int (own_dn n V D x1 x3)), .val (Value.int (x1 &&& (n.toInt32 - (1 : Int32))))] [(Value.ref a)]))
        obtain ⟨T33, X33, e33, st33⟩ := getF X31 hx hZ hown (host := "") (Or.inl (own_w37 hw)) Via.refl e31 F32_a_lists (g := (mkF m 79 #[.val (Value.ref a), .val (Value.int x1), .val Value.null, .val (Value.int x3), .val (Value.int (own_dn n V D x1 x3)), .val (Value.int (x1 &&& (n.toInt32 - (1 : Int32))))] [(Value.ref a)])) rfl rfl (hb hby own_d9_79)
        refine own_st st33 ?_
        show own_G p e below s _ _ _ (T33.setTop (mkF m 82 #[.val (Value.ref a), .val (Value.int x1), .val Value.null, .val (Value.int x3), .val (Value.int (own_dn n V D x1 x3)), .val (Value.int (x1 &&& (n.toInt32 - (1 : Int32))))] [(Value.ref kl)]))
        refine own_iload X33 hx hby own_d9_82 rfl ?_
        show own_G p e below s _ _ _ (T33.setTop (mkF m 84 #[.val (Value.ref a), .val (Value.int x1), .val Value.null, .val (Value.int x3), .val (Value.int (own_dn n V D x1 x3)), .val (Value.int (x1 &&& (n.toInt32 - (1 : Int32))))] [(Value.int (x1 &&& (n.toInt32 - (1 : Int32)))), (Value.ref kl)]))
        refine own_aloadN X33 hx hby own_d9_84 rfl rfl ?_
        show own_G p e below s _ _ _ (T33.setTop (mkF m 85 #[.val (Value.ref a), .val (Value.int x1), .val Value.null, .val (Value.int x3), .val (Value.int (own_dn n V D x1 x3)), .val (Value.int (x1 &&& (n.toInt32 - (1 : Int32))))] [Value.null, (Value.int (x1 &&& (n.toInt32 - (1 : Int32)))), (Value.ref kl)]))
        obtain ⟨T34, h34, X34, e34, W34, A34, st34⟩ := own_aastore X33 hx hby hZ e33 A32_kl rfl (j := (x1 &&& (n.toInt32 - (1 : Int32)))) (i := (own_ix n x1)) (own_and_ix (n := n) hpw x1).1 (own_and_ix (n := n) hpw x1).2 (Or.inl rfl) own_d9_85 (Ls := #[.val (Value.ref a), .val (Value.int x1), .val Value.null, .val (Value.int x3), .val (Value.int (own_dn n V D x1 x3)), .val (Value.int (x1 &&& (n.toInt32 - (1 : Int32))))]) (st := [])
        have F35_a_limit := Fld.other W34 F32_a_limit (Or.inl nal)
        have F35_a_vertices := Fld.other W34 F32_a_vertices (Or.inl nal)
        have F35_a_lists := Fld.other W34 F32_a_lists (Or.inl nal)
        have F35_a_depths := Fld.other W34 F32_a_depths (Or.inl nal)
        have E35_a := Exa.wr W34 E32_a
        have A35_kv := own_Ar.other A31n W34 nvl
        have A35_kd := own_Ar.other A32_kd W34 (Ne.symm nld)
        have O35 := Old.wr O32 W34 gl
        have N34 := Fr.snoc X34 N31 gl
        have K34 := Keep.wr K31 W34 (Or.inl (List.mem_of_getElem? (i := 2) rfl))
        have A34n : own_Ar Z h34 kl (.array .int) n (fun _ => Value.null) := own_Ar.fn A34 (by intro j _; simp only [own_set]; split <;> rfl)
        refine own_st st34 ?_
        show own_G p e below s _ _ _ (T34.setTop (mkF m 86 #[.val (Value.ref a), .val (Value.int x1), .val Value.null, .val (Value.int x3), .val (Value.int (own_dn n V D x1 x3)), .val (Value.int (x1 &&& (n.toInt32 - (1 : Int32))))] []))
        refine own_aloadN X34 hx hby own_d9_86 rfl rfl ?_
        show own_G p e below s _ _ _ (T34.setTop (mkF m 87 #[.val (Value.ref a), .val (Value.int x1), .val Value.null, .val (Value.int x3), .val (Value.int (own_dn n V D x1 x3)), .val (Value.int (x1 &&& (n.toInt32 - (1 : Int32))))] [(Value.ref a)]))
        obtain ⟨T36, X36, e36, st36⟩ := getF X34 hx hZ hown (host := "") (Or.inl (own_w39 hw)) Via.refl e34 F35_a_depths (g := (mkF m 87 #[.val (Value.ref a), .val (Value.int x1), .val Value.null, .val (Value.int x3), .val (Value.int (own_dn n V D x1 x3)), .val (Value.int (x1 &&& (n.toInt32 - (1 : Int32))))] [(Value.ref a)])) rfl rfl (hb hby own_d9_87)
        refine own_st st36 ?_
        show own_G p e below s _ _ _ (T36.setTop (mkF m 90 #[.val (Value.ref a), .val (Value.int x1), .val Value.null, .val (Value.int x3), .val (Value.int (own_dn n V D x1 x3)), .val (Value.int (x1 &&& (n.toInt32 - (1 : Int32))))] [(Value.ref kd)]))
        refine own_iload X36 hx hby own_d9_90 rfl ?_
        show own_G p e below s _ _ _ (T36.setTop (mkF m 92 #[.val (Value.ref a), .val (Value.int x1), .val Value.null, .val (Value.int x3), .val (Value.int (own_dn n V D x1 x3)), .val (Value.int (x1 &&& (n.toInt32 - (1 : Int32))))] [(Value.int (x1 &&& (n.toInt32 - (1 : Int32)))), (Value.ref kd)]))
        refine own_iload X36 hx hby own_d9_92 rfl ?_
        show own_G p e below s _ _ _ (T36.setTop (mkF m 94 #[.val (Value.ref a), .val (Value.int x1), .val Value.null, .val (Value.int x3), .val (Value.int (own_dn n V D x1 x3)), .val (Value.int (x1 &&& (n.toInt32 - (1 : Int32))))] [(Value.int (own_dn n V D x1 x3)), (Value.int (x1 &&& (n.toInt32 - (1 : Int32)))), (Value.ref kd)]))
        obtain ⟨T37, h37, X37, e37, W37, A37, st37⟩ := own_iastore X36 hx hby hZ e36 A35_kd (j := (x1 &&& (n.toInt32 - (1 : Int32)))) (i := (own_ix n x1)) (own_and_ix (n := n) hpw x1).1 (own_and_ix (n := n) hpw x1).2 (x := (own_dn n V D x1 x3)) own_d9_94 (Ls := #[.val (Value.ref a), .val (Value.int x1), .val Value.null, .val (Value.int x3), .val (Value.int (own_dn n V D x1 x3)), .val (Value.int (x1 &&& (n.toInt32 - (1 : Int32))))]) (st := [])
        have F38_a_limit := Fld.other W37 F35_a_limit (Or.inl nad)
        have F38_a_vertices := Fld.other W37 F35_a_vertices (Or.inl nad)
        have F38_a_lists := Fld.other W37 F35_a_lists (Or.inl nad)
        have F38_a_depths := Fld.other W37 F35_a_depths (Or.inl nad)
        have E38_a := Exa.wr W37 E35_a
        have A38_kv := own_Ar.other A35_kv W37 nvd
        have A38_kl := own_Ar.other A34n W37 nld
        have O38 := Old.wr O35 W37 gd
        have N37 := Fr.snoc X37 N34 gd
        have K37 := Keep.wr K34 W37 (Or.inl (List.mem_of_getElem? (i := 3) rfl))
        have A37n : own_Ar Z h37 kd .int n (fun j => Value.int ((own_up D (own_ix n x1) (own_dn n V D x1 x3)) j)) := own_Ar.fn A37 (by intro j _; simp only [own_set, own_up]; split <;> rfl)
        refine own_st st37 ?_
        show own_G p e below s _ _ _ (T37.setTop (mkF m 95 #[.val (Value.ref a), .val (Value.int x1), .val Value.null, .val (Value.int x3), .val (Value.int (own_dn n V D x1 x3)), .val (Value.int (x1 &&& (n.toInt32 - (1 : Int32))))] []))
        refine own_ret0 X37 hx hby hlk Bd.returns own_d9_95 (by decide) (by decide) ?_
        show own_rmKG_Q Z a x1 x3 lim kv kl kd n V D h0 n0 _ T37.heap _
        rw [e37]
        exact ⟨rfl, N37, K37, kv, kl, kd, _, _, _, hpw, (Or.inl hl), own_put (own_pw_pos hpw).1 hI hv0 (Or.inl hl), E38_a, F38_a_limit, F38_a_vertices, F38_a_lists, F38_a_depths, A38_kv, A38_kl, A37n, gv, gl, gd, nav, nal, nad, nvl, nvd, nld⟩
      · show own_G p e below s _ _ _ (T28.setTop (mkF m 40 #[.val (Value.ref a), .val (Value.int x1), .val Value.null, .val (Value.int x3), .val (Value.int (own_dn n V D x1 x3)), .val (Value.int (x1 &&& (n.toInt32 - (1 : Int32))))] []))
        refine own_aloadN X28 hx hby own_d9_40 rfl rfl ?_
        show own_G p e below s _ _ _ (T28.setTop (mkF m 41 #[.val (Value.ref a), .val (Value.int x1), .val Value.null, .val (Value.int x3), .val (Value.int (own_dn n V D x1 x3)), .val (Value.int (x1 &&& (n.toInt32 - (1 : Int32))))] [(Value.ref a)]))
        obtain ⟨T39, X39, e39, st39⟩ := getF X28 hx hZ hown (host := "") (Or.inl (own_w33 hw)) Via.refl e28 F_v (g := (mkF m 41 #[.val (Value.ref a), .val (Value.int x1), .val Value.null, .val (Value.int x3), .val (Value.int (own_dn n V D x1 x3)), .val (Value.int (x1 &&& (n.toInt32 - (1 : Int32))))] [(Value.ref a)])) rfl rfl (hb hby own_d9_41)
        refine own_st st39 ?_
        show own_G p e below s _ _ _ (T39.setTop (mkF m 44 #[.val (Value.ref a), .val (Value.int x1), .val Value.null, .val (Value.int x3), .val (Value.int (own_dn n V D x1 x3)), .val (Value.int (x1 &&& (n.toInt32 - (1 : Int32))))] [(Value.ref kv)]))
        refine own_alen X39 hx hby hZ e39 A_v own_d9_44 ?_
        show own_G p e below s _ _ _ (T39.setTop (mkF m 45 #[.val (Value.ref a), .val (Value.int x1), .val Value.null, .val (Value.int x3), .val (Value.int (own_dn n V D x1 x3)), .val (Value.int (x1 &&& (n.toInt32 - (1 : Int32))))] [(Value.int n.toInt32)]))
        refine own_aloadN X39 hx hby own_d9_45 rfl rfl ?_
        show own_G p e below s _ _ _ (T39.setTop (mkF m 46 #[.val (Value.ref a), .val (Value.int x1), .val Value.null, .val (Value.int x3), .val (Value.int (own_dn n V D x1 x3)), .val (Value.int (x1 &&& (n.toInt32 - (1 : Int32))))] [(Value.ref a), (Value.int n.toInt32)]))
        obtain ⟨T40, X40, e40, st40⟩ := getF X39 hx hZ hown (host := "") (Or.inl (own_w27 hw)) Via.refl e39 F_lim (g := (mkF m 46 #[.val (Value.ref a), .val (Value.int x1), .val Value.null, .val (Value.int x3), .val (Value.int (own_dn n V D x1 x3)), .val (Value.int (x1 &&& (n.toInt32 - (1 : Int32))))] [(Value.ref a), (Value.int n.toInt32)])) rfl rfl (hb hby own_d9_46)
        refine own_st st40 ?_
        show own_G p e below s _ _ _ (T40.setTop (mkF m 49 #[.val (Value.ref a), .val (Value.int x1), .val Value.null, .val (Value.int x3), .val (Value.int (own_dn n V D x1 x3)), .val (Value.int (x1 &&& (n.toInt32 - (1 : Int32))))] [(Value.int lim), (Value.int n.toInt32)]))
        refine own_icmp_ge X40 hx hby own_d9_49 (pc' := 70) (by decide) (by decide) (fun hb41 => ?_) (fun hb41 => by exfalso; rw [Int32.lt_iff_toInt_lt, (own_small (own_pw_pos hpw).2).1] at hb41; omega)
        show own_G p e below s _ _ _ (T40.setTop (mkF m 70 #[.val (Value.ref a), .val (Value.int x1), .val Value.null, .val (Value.int x3), .val (Value.int (own_dn n V D x1 x3)), .val (Value.int (x1 &&& (n.toInt32 - (1 : Int32))))] []))
        refine own_aloadN X40 hx hby own_d9_70 rfl rfl ?_
        show own_G p e below s _ _ _ (T40.setTop (mkF m 71 #[.val (Value.ref a), .val (Value.int x1), .val Value.null, .val (Value.int x3), .val (Value.int (own_dn n V D x1 x3)), .val (Value.int (x1 &&& (n.toInt32 - (1 : Int32))))] [(Value.ref a)]))
        obtain ⟨T42, X42, e42, st42⟩ := getF X40 hx hZ hown (host := "") (Or.inl (own_w33 hw)) Via.refl e40 F_v (g := (mkF m 71 #[.val (Value.ref a), .val (Value.int x1), .val Value.null, .val (Value.int x3), .val (Value.int (own_dn n V D x1 x3)), .val (Value.int (x1 &&& (n.toInt32 - (1 : Int32))))] [(Value.ref a)])) rfl rfl (hb hby own_d9_71)
        refine own_st st42 ?_
        show own_G p e below s _ _ _ (T42.setTop (mkF m 74 #[.val (Value.ref a), .val (Value.int x1), .val Value.null, .val (Value.int x3), .val (Value.int (own_dn n V D x1 x3)), .val (Value.int (x1 &&& (n.toInt32 - (1 : Int32))))] [(Value.ref kv)]))
        refine own_iload X42 hx hby own_d9_74 rfl ?_
        show own_G p e below s _ _ _ (T42.setTop (mkF m 76 #[.val (Value.ref a), .val (Value.int x1), .val Value.null, .val (Value.int x3), .val (Value.int (own_dn n V D x1 x3)), .val (Value.int (x1 &&& (n.toInt32 - (1 : Int32))))] [(Value.int (x1 &&& (n.toInt32 - (1 : Int32)))), (Value.ref kv)]))
        refine own_iloadN X42 hx hby own_d9_76 rfl ?_
        show own_G p e below s _ _ _ (T42.setTop (mkF m 77 #[.val (Value.ref a), .val (Value.int x1), .val Value.null, .val (Value.int x3), .val (Value.int (own_dn n V D x1 x3)), .val (Value.int (x1 &&& (n.toInt32 - (1 : Int32))))] [(Value.int x1), (Value.int (x1 &&& (n.toInt32 - (1 : Int32)))), (Value.ref kv)]))
        obtain ⟨T43, h43, X43, e43, W43, A43, st43⟩ := own_iastore X42 hx hby hZ e42 A_v (j := (x1 &&& (n.toInt32 - (1 : Int32)))) (i := (own_ix n x1)) (own_and_ix (n := n) hpw x1).1 (own_and_ix (n := n) hpw x1).2 (x := x1) own_d9_77 (Ls := #[.val (Value.ref a), .val (Value.int x1), .val Value.null, .val (Value.int x3), .val (Value.int (own_dn n V D x1 x3)), .val (Value.int (x1 &&& (n.toInt32 - (1 : Int32))))]) (st := [])
        have F44_a_limit := Fld.other W43 F_lim (Or.inl nav)
        have F44_a_vertices := Fld.other W43 F_v (Or.inl nav)
        have F44_a_lists := Fld.other W43 F_l (Or.inl nav)
        have F44_a_depths := Fld.other W43 F_d (Or.inl nav)
        have E44_a := Exa.wr W43 E_a
        have A44_kl := own_Ar.other A_l W43 (Ne.symm nvl)
        have A44_kd := own_Ar.other A_d W43 (Ne.symm nvd)
        have O44 := Old.wr O0 W43 gv
        have N43 := Fr.snoc X43 N0 gv
        have K43 := Keep.wr (Keep.refl h0 [a, kv, kl, kd]) W43 (Or.inl (List.mem_of_getElem? (i := 1) rfl))
        have A43n : own_Ar Z h43 kv .int n (fun j => Value.int ((own_up V (own_ix n x1) x1) j)) := own_Ar.fn A43 (by intro j _; simp only [own_set, own_up]; split <;> rfl)
        refine own_st st43 ?_
        show own_G p e below s _ _ _ (T43.setTop (mkF m 78 #[.val (Value.ref a), .val (Value.int x1), .val Value.null, .val (Value.int x3), .val (Value.int (own_dn n V D x1 x3)), .val (Value.int (x1 &&& (n.toInt32 - (1 : Int32))))] []))
        refine own_aloadN X43 hx hby own_d9_78 rfl rfl ?_
        show own_G p e below s _ _ _ (T43.setTop (mkF m 79 #[.val (Value.ref a), .val (Value.int x1), .val Value.null, .val (Value.int x3), .val (Value.int (own_dn n V D x1 x3)), .val (Value.int (x1 &&& (n.toInt32 - (1 : Int32))))] [(Value.ref a)]))
        obtain ⟨T45, X45, e45, st45⟩ := getF X43 hx hZ hown (host := "") (Or.inl (own_w37 hw)) Via.refl e43 F44_a_lists (g := (mkF m 79 #[.val (Value.ref a), .val (Value.int x1), .val Value.null, .val (Value.int x3), .val (Value.int (own_dn n V D x1 x3)), .val (Value.int (x1 &&& (n.toInt32 - (1 : Int32))))] [(Value.ref a)])) rfl rfl (hb hby own_d9_79)
        refine own_st st45 ?_
        show own_G p e below s _ _ _ (T45.setTop (mkF m 82 #[.val (Value.ref a), .val (Value.int x1), .val Value.null, .val (Value.int x3), .val (Value.int (own_dn n V D x1 x3)), .val (Value.int (x1 &&& (n.toInt32 - (1 : Int32))))] [(Value.ref kl)]))
        refine own_iload X45 hx hby own_d9_82 rfl ?_
        show own_G p e below s _ _ _ (T45.setTop (mkF m 84 #[.val (Value.ref a), .val (Value.int x1), .val Value.null, .val (Value.int x3), .val (Value.int (own_dn n V D x1 x3)), .val (Value.int (x1 &&& (n.toInt32 - (1 : Int32))))] [(Value.int (x1 &&& (n.toInt32 - (1 : Int32)))), (Value.ref kl)]))
        refine own_aloadN X45 hx hby own_d9_84 rfl rfl ?_
        show own_G p e below s _ _ _ (T45.setTop (mkF m 85 #[.val (Value.ref a), .val (Value.int x1), .val Value.null, .val (Value.int x3), .val (Value.int (own_dn n V D x1 x3)), .val (Value.int (x1 &&& (n.toInt32 - (1 : Int32))))] [Value.null, (Value.int (x1 &&& (n.toInt32 - (1 : Int32)))), (Value.ref kl)]))
        obtain ⟨T46, h46, X46, e46, W46, A46, st46⟩ := own_aastore X45 hx hby hZ e45 A44_kl rfl (j := (x1 &&& (n.toInt32 - (1 : Int32)))) (i := (own_ix n x1)) (own_and_ix (n := n) hpw x1).1 (own_and_ix (n := n) hpw x1).2 (Or.inl rfl) own_d9_85 (Ls := #[.val (Value.ref a), .val (Value.int x1), .val Value.null, .val (Value.int x3), .val (Value.int (own_dn n V D x1 x3)), .val (Value.int (x1 &&& (n.toInt32 - (1 : Int32))))]) (st := [])
        have F47_a_limit := Fld.other W46 F44_a_limit (Or.inl nal)
        have F47_a_vertices := Fld.other W46 F44_a_vertices (Or.inl nal)
        have F47_a_lists := Fld.other W46 F44_a_lists (Or.inl nal)
        have F47_a_depths := Fld.other W46 F44_a_depths (Or.inl nal)
        have E47_a := Exa.wr W46 E44_a
        have A47_kv := own_Ar.other A43n W46 nvl
        have A47_kd := own_Ar.other A44_kd W46 (Ne.symm nld)
        have O47 := Old.wr O44 W46 gl
        have N46 := Fr.snoc X46 N43 gl
        have K46 := Keep.wr K43 W46 (Or.inl (List.mem_of_getElem? (i := 2) rfl))
        have A46n : own_Ar Z h46 kl (.array .int) n (fun _ => Value.null) := own_Ar.fn A46 (by intro j _; simp only [own_set]; split <;> rfl)
        refine own_st st46 ?_
        show own_G p e below s _ _ _ (T46.setTop (mkF m 86 #[.val (Value.ref a), .val (Value.int x1), .val Value.null, .val (Value.int x3), .val (Value.int (own_dn n V D x1 x3)), .val (Value.int (x1 &&& (n.toInt32 - (1 : Int32))))] []))
        refine own_aloadN X46 hx hby own_d9_86 rfl rfl ?_
        show own_G p e below s _ _ _ (T46.setTop (mkF m 87 #[.val (Value.ref a), .val (Value.int x1), .val Value.null, .val (Value.int x3), .val (Value.int (own_dn n V D x1 x3)), .val (Value.int (x1 &&& (n.toInt32 - (1 : Int32))))] [(Value.ref a)]))
        obtain ⟨T48, X48, e48, st48⟩ := getF X46 hx hZ hown (host := "") (Or.inl (own_w39 hw)) Via.refl e46 F47_a_depths (g := (mkF m 87 #[.val (Value.ref a), .val (Value.int x1), .val Value.null, .val (Value.int x3), .val (Value.int (own_dn n V D x1 x3)), .val (Value.int (x1 &&& (n.toInt32 - (1 : Int32))))] [(Value.ref a)])) rfl rfl (hb hby own_d9_87)
        refine own_st st48 ?_
        show own_G p e below s _ _ _ (T48.setTop (mkF m 90 #[.val (Value.ref a), .val (Value.int x1), .val Value.null, .val (Value.int x3), .val (Value.int (own_dn n V D x1 x3)), .val (Value.int (x1 &&& (n.toInt32 - (1 : Int32))))] [(Value.ref kd)]))
        refine own_iload X48 hx hby own_d9_90 rfl ?_
        show own_G p e below s _ _ _ (T48.setTop (mkF m 92 #[.val (Value.ref a), .val (Value.int x1), .val Value.null, .val (Value.int x3), .val (Value.int (own_dn n V D x1 x3)), .val (Value.int (x1 &&& (n.toInt32 - (1 : Int32))))] [(Value.int (x1 &&& (n.toInt32 - (1 : Int32)))), (Value.ref kd)]))
        refine own_iload X48 hx hby own_d9_92 rfl ?_
        show own_G p e below s _ _ _ (T48.setTop (mkF m 94 #[.val (Value.ref a), .val (Value.int x1), .val Value.null, .val (Value.int x3), .val (Value.int (own_dn n V D x1 x3)), .val (Value.int (x1 &&& (n.toInt32 - (1 : Int32))))] [(Value.int (own_dn n V D x1 x3)), (Value.int (x1 &&& (n.toInt32 - (1 : Int32)))), (Value.ref kd)]))
        obtain ⟨T49, h49, X49, e49, W49, A49, st49⟩ := own_iastore X48 hx hby hZ e48 A47_kd (j := (x1 &&& (n.toInt32 - (1 : Int32)))) (i := (own_ix n x1)) (own_and_ix (n := n) hpw x1).1 (own_and_ix (n := n) hpw x1).2 (x := (own_dn n V D x1 x3)) own_d9_94 (Ls := #[.val (Value.ref a), .val (Value.int x1), .val Value.null, .val (Value.int x3), .val (Value.int (own_dn n V D x1 x3)), .val (Value.int (x1 &&& (n.toInt32 - (1 : Int32))))]) (st := [])
        have F50_a_limit := Fld.other W49 F47_a_limit (Or.inl nad)
        have F50_a_vertices := Fld.other W49 F47_a_vertices (Or.inl nad)
        have F50_a_lists := Fld.other W49 F47_a_lists (Or.inl nad)
        have F50_a_depths := Fld.other W49 F47_a_depths (Or.inl nad)
        have E50_a := Exa.wr W49 E47_a
        have A50_kv := own_Ar.other A47_kv W49 nvd
        have A50_kl := own_Ar.other A46n W49 nld
        have O50 := Old.wr O47 W49 gd
        have N49 := Fr.snoc X49 N46 gd
        have K49 := Keep.wr K46 W49 (Or.inl (List.mem_of_getElem? (i := 3) rfl))
        have A49n : own_Ar Z h49 kd .int n (fun j => Value.int ((own_up D (own_ix n x1) (own_dn n V D x1 x3)) j)) := own_Ar.fn A49 (by intro j _; simp only [own_set, own_up]; split <;> rfl)
        refine own_st st49 ?_
        show own_G p e below s _ _ _ (T49.setTop (mkF m 95 #[.val (Value.ref a), .val (Value.int x1), .val Value.null, .val (Value.int x3), .val (Value.int (own_dn n V D x1 x3)), .val (Value.int (x1 &&& (n.toInt32 - (1 : Int32))))] []))
        refine own_ret0 X49 hx hby hlk Bd.returns own_d9_95 (by decide) (by decide) ?_
        show own_rmKG_Q Z a x1 x3 lim kv kl kd n V D h0 n0 _ T49.heap _
        rw [e49]
        exact ⟨rfl, N49, K49, kv, kl, kd, _, _, _, hpw, (Or.inl hl), own_put (own_pw_pos hpw).1 hI hv0 (Or.inl hl), E50_a, F50_a_limit, F50_a_vertices, F50_a_lists, F50_a_depths, A50_kv, A50_kl, A49n, gv, gl, gd, nav, nal, nad, nvl, nvd, nld⟩
  · skip
    show own_G p e below s _ _ _ (s₁.setTop (mkF m 0 #[.val (Value.ref a), .val (Value.int x1), .val Value.null, .val (Value.int x3), .unset, .unset] []))
    refine own_iloadN X0 hx hby own_d9_0 rfl ?_
    show own_G p e below s _ _ _ (s₁.setTop (mkF m 1 #[.val (Value.ref a), .val (Value.int x1), .val Value.null, .val (Value.int x3), .unset, .unset] [(Value.int x3)]))
    refine own_if_ne X0 hx hby own_d9_1 (pc' := 8) (by decide) (by decide) (fun hb51 => ?_) (fun hb51 => ?_)
    · show own_G p e below s _ _ _ (s₁.setTop (mkF m 8 #[.val (Value.ref a), .val (Value.int x1), .val Value.null, .val (Value.int x3), .unset, .unset] []))
      refine own_aloadN X0 hx hby own_d9_8 rfl rfl ?_
      show own_G p e below s _ _ _ (s₁.setTop (mkF m 9 #[.val (Value.ref a), .val (Value.int x1), .val Value.null, .val (Value.int x3), .unset, .unset] [(Value.ref a)]))
      refine own_iloadN X0 hx hby own_d9_9 rfl ?_
      show own_G p e below s _ _ _ (s₁.setTop (mkF m 10 #[.val (Value.ref a), .val (Value.int x1), .val Value.null, .val (Value.int x3), .unset, .unset] [(Value.int x1), (Value.ref a)]))
      refine own_iloadN X0 hx hby own_d9_10 rfl ?_
      show own_G p e below s _ _ _ (s₁.setTop (mkF m 11 #[.val (Value.ref a), .val (Value.int x1), .val Value.null, .val (Value.int x3), .unset, .unset] [(Value.int x3), (Value.int x1), (Value.ref a)]))
      refine own_isub X0 hx hby own_d9_11 ?_
      show own_G p e below s _ _ _ (s₁.setTop (mkF m 12 #[.val (Value.ref a), .val (Value.int x1), .val Value.null, .val (Value.int x3), .unset, .unset] [(Value.int (x1 - x3)), (Value.ref a)]))
      obtain ⟨cq52, kq52, q52a, q52b, q52c⟩ := isOf (T := s₁) hZ e0 E_a
      obtain ⟨_, _, ⟨T52, L52, k52, n52⟩, -, X52, ⟨Lc52, hQ52, l52, y52, z52⟩, st52⟩ := X0.virtualBack hx (y := (⟨"com/example/tuck/tuck/ListWindow", "depth", "(I)I"⟩ : MethodName)) (z := (⟨"com/example/tuck/tuck/ListWindow", "depth", "(I)I"⟩ : MethodName)) hown (mvT hZ (own_w55 hw)) (mvT hZ (own_w51 hw)) (notFace_of_selects (args := #[]) (mvT hZ (own_w53 hw))) (mvT hZ (own_w53 hw)) (mvT hZ (own_w52 hw)) (by decide) (backOf (W := 0) (own_rmD l Z a0 hw [] a (x1 - x3) lim kv kl kd 64 V D h0 n0 O0 E_a F_lim F_v F_l F_d A_v A_l A_d ga gv gl gd nav nal nad nvl nvd nld hpw) hZ (own_w54 hw) (own_w4 hw) (by decide) (by decide)) q52a q52c (g := (mkF m 12 #[.val (Value.ref a), .val (Value.int x1), .val Value.null, .val (Value.int x3), .unset, .unset] [(Value.int (x1 - x3)), (Value.ref a)])) rfl (by rw [hml]; rfl) (Steps.refl _) (argsL := [(Value.int (x1 - x3))]) (rest := []) (lenOf own_pd0 rfl) rfl (by show 2 * 0 + _ ≤ _; exact Nat.le_of_eq rfl) (hb hby own_d9_12) (fun _ _ => ⟨rfl, e0, (by decide : (0 : Nat) + 0 ≤ _), (by decide : (0 : Nat) + 0 ≤ _)⟩)
      dsimp only [Pt.U, Pt.locs, Pt.cells, Pt.slots] at X52 l52 y52 z52 st52 hQ52
      subst l52 y52 z52
      obtain ⟨rfl, e52, Nq52⟩ := hQ52
      have N52 := Fr.app N0 Nq52
      refine own_tr st52 ?_
      show own_G p e below s _ _ _ (T52.setTop (mkF m 15 #[.val (Value.ref a), .val (Value.int x1), .val Value.null, .val (Value.int x3), .unset, .unset] [(Value.int (own_dep 64 V D (x1 - x3)))]))
      refine own_iconst X52 hx hby own_d9_15 ?_
      show own_G p e below s _ _ _ (T52.setTop (mkF m 16 #[.val (Value.ref a), .val (Value.int x1), .val Value.null, .val (Value.int x3), .unset, .unset] [(Value.int (1 : Int32)), (Value.int (own_dep 64 V D (x1 - x3)))]))
      refine own_iadd X52 hx hby own_d9_16 ?_
      show own_G p e below s _ _ _ (T52.setTop (mkF m 17 #[.val (Value.ref a), .val (Value.int x1), .val Value.null, .val (Value.int x3), .unset, .unset] [(Value.int ((own_dep 64 V D (x1 - x3)) + (1 : Int32)))]))
      rw [show ((own_dep 64 V D (x1 - x3)) + (1 : Int32)) = (own_dn 64 V D x1 x3) from (if_neg hb51).symm]
      refine own_istore X52 hx hby own_d9_17 (l' := #[.val (Value.ref a), .val (Value.int x1), .val Value.null, .val (Value.int x3), .val (Value.int (own_dn 64 V D x1 x3)), .unset]) rfl ?_
      show own_G p e below s _ _ _ (T52.setTop (mkF m 19 #[.val (Value.ref a), .val (Value.int x1), .val Value.null, .val (Value.int x3), .val (Value.int (own_dn 64 V D x1 x3)), .unset] []))
      refine own_iloadN X52 hx hby own_d9_19 rfl ?_
      show own_G p e below s _ _ _ (T52.setTop (mkF m 20 #[.val (Value.ref a), .val (Value.int x1), .val Value.null, .val (Value.int x3), .val (Value.int (own_dn 64 V D x1 x3)), .unset] [(Value.int x1)]))
      refine own_aloadN X52 hx hby own_d9_20 rfl rfl ?_
      show own_G p e below s _ _ _ (T52.setTop (mkF m 21 #[.val (Value.ref a), .val (Value.int x1), .val Value.null, .val (Value.int x3), .val (Value.int (own_dn 64 V D x1 x3)), .unset] [(Value.ref a), (Value.int x1)]))
      obtain ⟨T53, X53, e53, st53⟩ := getF X52 hx hZ hown (host := "") (Or.inl (own_w33 hw)) Via.refl e52 F_v (g := (mkF m 21 #[.val (Value.ref a), .val (Value.int x1), .val Value.null, .val (Value.int x3), .val (Value.int (own_dn 64 V D x1 x3)), .unset] [(Value.ref a), (Value.int x1)])) rfl rfl (hb hby own_d9_21)
      refine own_st st53 ?_
      show own_G p e below s _ _ _ (T53.setTop (mkF m 24 #[.val (Value.ref a), .val (Value.int x1), .val Value.null, .val (Value.int x3), .val (Value.int (own_dn 64 V D x1 x3)), .unset] [(Value.ref kv), (Value.int x1)]))
      refine own_alen X53 hx hby hZ e53 A_v own_d9_24 ?_
      show own_G p e below s _ _ _ (T53.setTop (mkF m 25 #[.val (Value.ref a), .val (Value.int x1), .val Value.null, .val (Value.int x3), .val (Value.int (own_dn 64 V D x1 x3)), .unset] [(Value.int (64 : Int32)), (Value.int x1)]))
      refine own_iconst X53 hx hby own_d9_25 ?_
      show own_G p e below s _ _ _ (T53.setTop (mkF m 26 #[.val (Value.ref a), .val (Value.int x1), .val Value.null, .val (Value.int x3), .val (Value.int (own_dn 64 V D x1 x3)), .unset] [(Value.int (1 : Int32)), (Value.int (64 : Int32)), (Value.int x1)]))
      refine own_isub X53 hx hby own_d9_26 ?_
      show own_G p e below s _ _ _ (T53.setTop (mkF m 27 #[.val (Value.ref a), .val (Value.int x1), .val Value.null, .val (Value.int x3), .val (Value.int (own_dn 64 V D x1 x3)), .unset] [(Value.int ((64 : Int32) - (1 : Int32))), (Value.int x1)]))
      refine own_iand X53 hx hby own_d9_27 ?_
      show own_G p e below s _ _ _ (T53.setTop (mkF m 28 #[.val (Value.ref a), .val (Value.int x1), .val Value.null, .val (Value.int x3), .val (Value.int (own_dn 64 V D x1 x3)), .unset] [(Value.int (x1 &&& ((64 : Int32) - (1 : Int32))))]))
      refine own_istore X53 hx hby own_d9_28 (l' := #[.val (Value.ref a), .val (Value.int x1), .val Value.null, .val (Value.int x3), .val (Value.int (own_dn 64 V D x1 x3)), .val (Value.int (x1 &&& ((64 : Int32) - (1 : Int32))))]) rfl ?_
      show own_G p e below s _ _ _ (T53.setTop (mkF m 30 #[.val (Value.ref a), .val (Value.int x1), .val Value.null, .val (Value.int x3), .val (Value.int (own_dn 64 V D x1 x3)), .val (Value.int (x1 &&& ((64 : Int32) - (1 : Int32))))] []))
      refine own_aloadN X53 hx hby own_d9_30 rfl rfl ?_
      show own_G p e below s _ _ _ (T53.setTop (mkF m 31 #[.val (Value.ref a), .val (Value.int x1), .val Value.null, .val (Value.int x3), .val (Value.int (own_dn 64 V D x1 x3)), .val (Value.int (x1 &&& ((64 : Int32) - (1 : Int32))))] [(Value.ref a)]))
      obtain ⟨T54, X54, e54, st54⟩ := getF X53 hx hZ hown (host := "") (Or.inl (own_w33 hw)) Via.refl e53 F_v (g := (mkF m 31 #[.val (Value.ref a), .val (Value.int x1), .val Value.null, .val (Value.int x3), .val (Value.int (own_dn 64 V D x1 x3)), .val (Value.int (x1 &&& ((64 : Int32) - (1 : Int32))))] [(Value.ref a)])) rfl rfl (hb hby own_d9_31)
      refine own_st st54 ?_
      show own_G p e below s _ _ _ (T54.setTop (mkF m 34 #[.val (Value.ref a), .val (Value.int x1), .val Value.null, .val (Value.int x3), .val (Value.int (own_dn 64 V D x1 x3)), .val (Value.int (x1 &&& ((64 : Int32) - (1 : Int32))))] [(Value.ref kv)]))
      refine own_iload X54 hx hby own_d9_34 rfl ?_
      show own_G p e below s _ _ _ (T54.setTop (mkF m 36 #[.val (Value.ref a), .val (Value.int x1), .val Value.null, .val (Value.int x3), .val (Value.int (own_dn 64 V D x1 x3)), .val (Value.int (x1 &&& ((64 : Int32) - (1 : Int32))))] [(Value.int (x1 &&& ((64 : Int32) - (1 : Int32)))), (Value.ref kv)]))
      refine own_iaload X54 hx hby hZ e54 A_v (j := (x1 &&& ((64 : Int32) - (1 : Int32)))) (i := (own_ix 64 x1)) (own_and_ix (n := 64) hpw x1).1 (own_and_ix (n := 64) hpw x1).2 own_d9_36 ?_
      show own_G p e below s _ _ _ (T54.setTop (mkF m 37 #[.val (Value.ref a), .val (Value.int x1), .val Value.null, .val (Value.int x3), .val (Value.int (own_dn 64 V D x1 x3)), .val (Value.int (x1 &&& ((64 : Int32) - (1 : Int32))))] [(Value.int (V (own_ix 64 x1)))]))
      refine own_if_lt X54 hx hby own_d9_37 (pc' := 70) (by decide) (by decide) (fun hb55 => ?_) (fun hb55 => ?_)
      · show own_G p e below s _ _ _ (T54.setTop (mkF m 70 #[.val (Value.ref a), .val (Value.int x1), .val Value.null, .val (Value.int x3), .val (Value.int (own_dn 64 V D x1 x3)), .val (Value.int (x1 &&& ((64 : Int32) - (1 : Int32))))] []))
        refine own_aloadN X54 hx hby own_d9_70 rfl rfl ?_
        show own_G p e below s _ _ _ (T54.setTop (mkF m 71 #[.val (Value.ref a), .val (Value.int x1), .val Value.null, .val (Value.int x3), .val (Value.int (own_dn 64 V D x1 x3)), .val (Value.int (x1 &&& ((64 : Int32) - (1 : Int32))))] [(Value.ref a)]))
        obtain ⟨T56, X56, e56, st56⟩ := getF X54 hx hZ hown (host := "") (Or.inl (own_w33 hw)) Via.refl e54 F_v (g := (mkF m 71 #[.val (Value.ref a), .val (Value.int x1), .val Value.null, .val (Value.int x3), .val (Value.int (own_dn 64 V D x1 x3)), .val (Value.int (x1 &&& ((64 : Int32) - (1 : Int32))))] [(Value.ref a)])) rfl rfl (hb hby own_d9_71)
        refine own_st st56 ?_
        show own_G p e below s _ _ _ (T56.setTop (mkF m 74 #[.val (Value.ref a), .val (Value.int x1), .val Value.null, .val (Value.int x3), .val (Value.int (own_dn 64 V D x1 x3)), .val (Value.int (x1 &&& ((64 : Int32) - (1 : Int32))))] [(Value.ref kv)]))
        refine own_iload X56 hx hby own_d9_74 rfl ?_
        show own_G p e below s _ _ _ (T56.setTop (mkF m 76 #[.val (Value.ref a), .val (Value.int x1), .val Value.null, .val (Value.int x3), .val (Value.int (own_dn 64 V D x1 x3)), .val (Value.int (x1 &&& ((64 : Int32) - (1 : Int32))))] [(Value.int (x1 &&& ((64 : Int32) - (1 : Int32)))), (Value.ref kv)]))
        refine own_iloadN X56 hx hby own_d9_76 rfl ?_
        show own_G p e below s _ _ _ (T56.setTop (mkF m 77 #[.val (Value.ref a), .val (Value.int x1), .val Value.null, .val (Value.int x3), .val (Value.int (own_dn 64 V D x1 x3)), .val (Value.int (x1 &&& ((64 : Int32) - (1 : Int32))))] [(Value.int x1), (Value.int (x1 &&& ((64 : Int32) - (1 : Int32)))), (Value.ref kv)]))
        obtain ⟨T57, h57, X57, e57, W57, A57, st57⟩ := own_iastore X56 hx hby hZ e56 A_v (j := (x1 &&& ((64 : Int32) - (1 : Int32)))) (i := (own_ix 64 x1)) (own_and_ix (n := 64) hpw x1).1 (own_and_ix (n := 64) hpw x1).2 (x := x1) own_d9_77 (Ls := #[.val (Value.ref a), .val (Value.int x1), .val Value.null, .val (Value.int x3), .val (Value.int (own_dn 64 V D x1 x3)), .val (Value.int (x1 &&& ((64 : Int32) - (1 : Int32))))]) (st := [])
        have F58_a_limit := Fld.other W57 F_lim (Or.inl nav)
        have F58_a_vertices := Fld.other W57 F_v (Or.inl nav)
        have F58_a_lists := Fld.other W57 F_l (Or.inl nav)
        have F58_a_depths := Fld.other W57 F_d (Or.inl nav)
        have E58_a := Exa.wr W57 E_a
        have A58_kl := own_Ar.other A_l W57 (Ne.symm nvl)
        have A58_kd := own_Ar.other A_d W57 (Ne.symm nvd)
        have O58 := Old.wr O0 W57 gv
        have N57 := Fr.snoc X57 N52 gv
        have K57 := Keep.wr (Keep.refl h0 [a, kv, kl, kd]) W57 (Or.inl (List.mem_of_getElem? (i := 1) rfl))
        have A57n : own_Ar Z h57 kv .int 64 (fun j => Value.int ((own_up V (own_ix 64 x1) x1) j)) := own_Ar.fn A57 (by intro j _; simp only [own_set, own_up]; split <;> rfl)
        refine own_st st57 ?_
        show own_G p e below s _ _ _ (T57.setTop (mkF m 78 #[.val (Value.ref a), .val (Value.int x1), .val Value.null, .val (Value.int x3), .val (Value.int (own_dn 64 V D x1 x3)), .val (Value.int (x1 &&& ((64 : Int32) - (1 : Int32))))] []))
        refine own_aloadN X57 hx hby own_d9_78 rfl rfl ?_
        show own_G p e below s _ _ _ (T57.setTop (mkF m 79 #[.val (Value.ref a), .val (Value.int x1), .val Value.null, .val (Value.int x3), .val (Value.int (own_dn 64 V D x1 x3)), .val (Value.int (x1 &&& ((64 : Int32) - (1 : Int32))))] [(Value.ref a)]))
        obtain ⟨T59, X59, e59, st59⟩ := getF X57 hx hZ hown (host := "") (Or.inl (own_w37 hw)) Via.refl e57 F58_a_lists (g := (mkF m 79 #[.val (Value.ref a), .val (Value.int x1), .val Value.null, .val (Value.int x3), .val (Value.int (own_dn 64 V D x1 x3)), .val (Value.int (x1 &&& ((64 : Int32) - (1 : Int32))))] [(Value.ref a)])) rfl rfl (hb hby own_d9_79)
        refine own_st st59 ?_
        show own_G p e below s _ _ _ (T59.setTop (mkF m 82 #[.val (Value.ref a), .val (Value.int x1), .val Value.null, .val (Value.int x3), .val (Value.int (own_dn 64 V D x1 x3)), .val (Value.int (x1 &&& ((64 : Int32) - (1 : Int32))))] [(Value.ref kl)]))
        refine own_iload X59 hx hby own_d9_82 rfl ?_
        show own_G p e below s _ _ _ (T59.setTop (mkF m 84 #[.val (Value.ref a), .val (Value.int x1), .val Value.null, .val (Value.int x3), .val (Value.int (own_dn 64 V D x1 x3)), .val (Value.int (x1 &&& ((64 : Int32) - (1 : Int32))))] [(Value.int (x1 &&& ((64 : Int32) - (1 : Int32)))), (Value.ref kl)]))
        refine own_aloadN X59 hx hby own_d9_84 rfl rfl ?_
        show own_G p e below s _ _ _ (T59.setTop (mkF m 85 #[.val (Value.ref a), .val (Value.int x1), .val Value.null, .val (Value.int x3), .val (Value.int (own_dn 64 V D x1 x3)), .val (Value.int (x1 &&& ((64 : Int32) - (1 : Int32))))] [Value.null, (Value.int (x1 &&& ((64 : Int32) - (1 : Int32)))), (Value.ref kl)]))
        obtain ⟨T60, h60, X60, e60, W60, A60, st60⟩ := own_aastore X59 hx hby hZ e59 A58_kl rfl (j := (x1 &&& ((64 : Int32) - (1 : Int32)))) (i := (own_ix 64 x1)) (own_and_ix (n := 64) hpw x1).1 (own_and_ix (n := 64) hpw x1).2 (Or.inl rfl) own_d9_85 (Ls := #[.val (Value.ref a), .val (Value.int x1), .val Value.null, .val (Value.int x3), .val (Value.int (own_dn 64 V D x1 x3)), .val (Value.int (x1 &&& ((64 : Int32) - (1 : Int32))))]) (st := [])
        have F61_a_limit := Fld.other W60 F58_a_limit (Or.inl nal)
        have F61_a_vertices := Fld.other W60 F58_a_vertices (Or.inl nal)
        have F61_a_lists := Fld.other W60 F58_a_lists (Or.inl nal)
        have F61_a_depths := Fld.other W60 F58_a_depths (Or.inl nal)
        have E61_a := Exa.wr W60 E58_a
        have A61_kv := own_Ar.other A57n W60 nvl
        have A61_kd := own_Ar.other A58_kd W60 (Ne.symm nld)
        have O61 := Old.wr O58 W60 gl
        have N60 := Fr.snoc X60 N57 gl
        have K60 := Keep.wr K57 W60 (Or.inl (List.mem_of_getElem? (i := 2) rfl))
        have A60n : own_Ar Z h60 kl (.array .int) 64 (fun _ => Value.null) := own_Ar.fn A60 (by intro j _; simp only [own_set]; split <;> rfl)
        refine own_st st60 ?_
        show own_G p e below s _ _ _ (T60.setTop (mkF m 86 #[.val (Value.ref a), .val (Value.int x1), .val Value.null, .val (Value.int x3), .val (Value.int (own_dn 64 V D x1 x3)), .val (Value.int (x1 &&& ((64 : Int32) - (1 : Int32))))] []))
        refine own_aloadN X60 hx hby own_d9_86 rfl rfl ?_
        show own_G p e below s _ _ _ (T60.setTop (mkF m 87 #[.val (Value.ref a), .val (Value.int x1), .val Value.null, .val (Value.int x3), .val (Value.int (own_dn 64 V D x1 x3)), .val (Value.int (x1 &&& ((64 : Int32) - (1 : Int32))))] [(Value.ref a)]))
        obtain ⟨T62, X62, e62, st62⟩ := getF X60 hx hZ hown (host := "") (Or.inl (own_w39 hw)) Via.refl e60 F61_a_depths (g := (mkF m 87 #[.val (Value.ref a), .val (Value.int x1), .val Value.null, .val (Value.int x3), .val (Value.int (own_dn 64 V D x1 x3)), .val (Value.int (x1 &&& ((64 : Int32) - (1 : Int32))))] [(Value.ref a)])) rfl rfl (hb hby own_d9_87)
        refine own_st st62 ?_
        show own_G p e below s _ _ _ (T62.setTop (mkF m 90 #[.val (Value.ref a), .val (Value.int x1), .val Value.null, .val (Value.int x3), .val (Value.int (own_dn 64 V D x1 x3)), .val (Value.int (x1 &&& ((64 : Int32) - (1 : Int32))))] [(Value.ref kd)]))
        refine own_iload X62 hx hby own_d9_90 rfl ?_
        show own_G p e below s _ _ _ (T62.setTop (mkF m 92 #[.val (Value.ref a), .val (Value.int x1), .val Value.null, .val (Value.int x3), .val (Value.int (own_dn 64 V D x1 x3)), .val (Value.int (x1 &&& ((64 : Int32) - (1 : Int32))))] [(Value.int (x1 &&& ((64 : Int32) - (1 : Int32)))), (Value.ref kd)]))
        refine own_iload X62 hx hby own_d9_92 rfl ?_
        show own_G p e below s _ _ _ (T62.setTop (mkF m 94 #[.val (Value.ref a), .val (Value.int x1), .val Value.null, .val (Value.int x3), .val (Value.int (own_dn 64 V D x1 x3)), .val (Value.int (x1 &&& ((64 : Int32) - (1 : Int32))))] [(Value.int (own_dn 64 V D x1 x3)), (Value.int (x1 &&& ((64 : Int32) - (1 : Int32)))), (Value.ref kd)]))
        obtain ⟨T63, h63, X63, e63, W63, A63, st63⟩ := own_iastore X62 hx hby hZ e62 A61_kd (j := (x1 &&& ((64 : Int32) - (1 : Int32)))) (i := (own_ix 64 x1)) (own_and_ix (n := 64) hpw x1).1 (own_and_ix (n := 64) hpw x1).2 (x := (own_dn 64 V D x1 x3)) own_d9_94 (Ls := #[.val (Value.ref a), .val (Value.int x1), .val Value.null, .val (Value.int x3), .val (Value.int (own_dn 64 V D x1 x3)), .val (Value.int (x1 &&& ((64 : Int32) - (1 : Int32))))]) (st := [])
        have F64_a_limit := Fld.other W63 F61_a_limit (Or.inl nad)
        have F64_a_vertices := Fld.other W63 F61_a_vertices (Or.inl nad)
        have F64_a_lists := Fld.other W63 F61_a_lists (Or.inl nad)
        have F64_a_depths := Fld.other W63 F61_a_depths (Or.inl nad)
        have E64_a := Exa.wr W63 E61_a
        have A64_kv := own_Ar.other A61_kv W63 nvd
        have A64_kl := own_Ar.other A60n W63 nld
        have O64 := Old.wr O61 W63 gd
        have N63 := Fr.snoc X63 N60 gd
        have K63 := Keep.wr K60 W63 (Or.inl (List.mem_of_getElem? (i := 3) rfl))
        have A63n : own_Ar Z h63 kd .int 64 (fun j => Value.int ((own_up D (own_ix 64 x1) (own_dn 64 V D x1 x3)) j)) := own_Ar.fn A63 (by intro j _; simp only [own_set, own_up]; split <;> rfl)
        refine own_st st63 ?_
        show own_G p e below s _ _ _ (T63.setTop (mkF m 95 #[.val (Value.ref a), .val (Value.int x1), .val Value.null, .val (Value.int x3), .val (Value.int (own_dn 64 V D x1 x3)), .val (Value.int (x1 &&& ((64 : Int32) - (1 : Int32))))] []))
        refine own_ret0 X63 hx hby hlk Bd.returns own_d9_95 (by decide) (by decide) ?_
        show own_rmKG_Q Z a x1 x3 lim kv kl kd 64 V D h0 n0 _ T63.heap _
        rw [e63]
        exact ⟨rfl, N63, K63, kv, kl, kd, _, _, _, hpw, (Or.inr ⟨rfl, hl⟩), own_put (by decide) hI hv0 (Or.inr (by have q := hb55; rw [Int32.lt_iff_toInt_lt] at q; exact q)), E64_a, F64_a_limit, F64_a_vertices, F64_a_lists, F64_a_depths, A64_kv, A64_kl, A63n, gv, gl, gd, nav, nal, nad, nvl, nvd, nld⟩
      · show own_G p e below s _ _ _ (T54.setTop (mkF m 40 #[.val (Value.ref a), .val (Value.int x1), .val Value.null, .val (Value.int x3), .val (Value.int (own_dn 64 V D x1 x3)), .val (Value.int (x1 &&& ((64 : Int32) - (1 : Int32))))] []))
        refine own_aloadN X54 hx hby own_d9_40 rfl rfl ?_
        show own_G p e below s _ _ _ (T54.setTop (mkF m 41 #[.val (Value.ref a), .val (Value.int x1), .val Value.null, .val (Value.int x3), .val (Value.int (own_dn 64 V D x1 x3)), .val (Value.int (x1 &&& ((64 : Int32) - (1 : Int32))))] [(Value.ref a)]))
        obtain ⟨T65, X65, e65, st65⟩ := getF X54 hx hZ hown (host := "") (Or.inl (own_w33 hw)) Via.refl e54 F_v (g := (mkF m 41 #[.val (Value.ref a), .val (Value.int x1), .val Value.null, .val (Value.int x3), .val (Value.int (own_dn 64 V D x1 x3)), .val (Value.int (x1 &&& ((64 : Int32) - (1 : Int32))))] [(Value.ref a)])) rfl rfl (hb hby own_d9_41)
        refine own_st st65 ?_
        show own_G p e below s _ _ _ (T65.setTop (mkF m 44 #[.val (Value.ref a), .val (Value.int x1), .val Value.null, .val (Value.int x3), .val (Value.int (own_dn 64 V D x1 x3)), .val (Value.int (x1 &&& ((64 : Int32) - (1 : Int32))))] [(Value.ref kv)]))
        refine own_alen X65 hx hby hZ e65 A_v own_d9_44 ?_
        show own_G p e below s _ _ _ (T65.setTop (mkF m 45 #[.val (Value.ref a), .val (Value.int x1), .val Value.null, .val (Value.int x3), .val (Value.int (own_dn 64 V D x1 x3)), .val (Value.int (x1 &&& ((64 : Int32) - (1 : Int32))))] [(Value.int (64 : Int32))]))
        refine own_aloadN X65 hx hby own_d9_45 rfl rfl ?_
        show own_G p e below s _ _ _ (T65.setTop (mkF m 46 #[.val (Value.ref a), .val (Value.int x1), .val Value.null, .val (Value.int x3), .val (Value.int (own_dn 64 V D x1 x3)), .val (Value.int (x1 &&& ((64 : Int32) - (1 : Int32))))] [(Value.ref a), (Value.int (64 : Int32))]))
        obtain ⟨T66, X66, e66, st66⟩ := getF X65 hx hZ hown (host := "") (Or.inl (own_w27 hw)) Via.refl e65 F_lim (g := (mkF m 46 #[.val (Value.ref a), .val (Value.int x1), .val Value.null, .val (Value.int x3), .val (Value.int (own_dn 64 V D x1 x3)), .val (Value.int (x1 &&& ((64 : Int32) - (1 : Int32))))] [(Value.ref a), (Value.int (64 : Int32))])) rfl rfl (hb hby own_d9_46)
        refine own_st st66 ?_
        show own_G p e below s _ _ _ (T66.setTop (mkF m 49 #[.val (Value.ref a), .val (Value.int x1), .val Value.null, .val (Value.int x3), .val (Value.int (own_dn 64 V D x1 x3)), .val (Value.int (x1 &&& ((64 : Int32) - (1 : Int32))))] [(Value.int lim), (Value.int (64 : Int32))]))
        refine own_icmp_ge X66 hx hby own_d9_49 (pc' := 70) (by decide) (by decide) (fun hb67 => by exfalso; apply hb67; rw [Int32.lt_iff_toInt_lt]; simp only [Int32.reduceToInt]; omega) (fun hb67 => ?_)
        show own_G p e below s _ _ _ (T66.setTop (mkF m 52 #[.val (Value.ref a), .val (Value.int x1), .val Value.null, .val (Value.int x3), .val (Value.int (own_dn 64 V D x1 x3)), .val (Value.int (x1 &&& ((64 : Int32) - (1 : Int32))))] []))
        refine own_aloadN X66 hx hby own_d9_52 rfl rfl ?_
        show own_G p e below s _ _ _ (T66.setTop (mkF m 53 #[.val (Value.ref a), .val (Value.int x1), .val Value.null, .val (Value.int x3), .val (Value.int (own_dn 64 V D x1 x3)), .val (Value.int (x1 &&& ((64 : Int32) - (1 : Int32))))] [(Value.ref a)]))
        obtain ⟨cq68, q68, q68'⟩ := E_a.cell
        obtain ⟨_, _, ⟨T68, L68, k68, n68⟩, -, X68, ⟨Lc68, hQ68, l68, y68, z68⟩, st68⟩ := X66.privateBack hx (y := (⟨"com/example/tuck/tuck/ListWindow", "grow", "()V"⟩ : MethodName)) hown (mvT hZ (own_w62 hw)) (mvT hZ (own_w63 hw)) (own_privsel hZ (own_w3 hw) (own_w64 hw) (own_w63 hw) (by decide)) (Cond.privateMethod_at (mvP hZ (own_w64 hw) (args := #[]))) (mvT hZ (own_w65 hw)) (by decide) (backOf (W := 0) (own_rmG l Z a0 hw [] a lim kv kl kd V D h0 n0 O0 E_a F_lim F_v F_l F_d A_v A_l A_d ga gv gl gd nav nal nad nvl nvd nld) hZ (own_w65 hw) (own_w4 hw) (by decide) (by decide)) (g := (mkF m 53 #[.val (Value.ref a), .val (Value.int x1), .val Value.null, .val (Value.int x3), .val (Value.int (own_dn 64 V D x1 x3)), .val (Value.int (x1 &&& ((64 : Int32) - (1 : Int32))))] [(Value.ref a)])) rfl (by rw [hml]; rfl) (Steps.refl _) (a := a) (by rw [e66]; exact q68) q68' (argsL := []) (rest := []) (lenOf own_pd4 rfl) rfl (by show 2 * 0 + _ ≤ _; exact Nat.le_of_eq rfl) (hb hby own_d9_53) (fun _ _ => ⟨rfl, e66, (by decide : (0 : Nat) + 3 ≤ _), (by decide : (0 : Nat) + 384 ≤ _)⟩)
        dsimp only [Pt.U, Pt.locs, Pt.cells, Pt.slots] at X68 l68 y68 z68 st68 hQ68
        subst l68 y68 z68
        obtain ⟨rfl, Nq68, Kq68, kv68, kl68, kd68, zv68, zl68, zd68, Eq68, Fl68, Fv68, Fs68, Fd68, Av68, Al68, Ad68, gv68, gl68, gd68, n168, n268, n368, n468, n568, n668⟩ := hQ68
        have N68 := Fr.app N52 Nq68
        have E69_a := Exa.keep E_a Kq68
        have O69 := Old.keep O0 Kq68 (allS ga all0)
        have qzv68 : h0.size ≤ kv68 := Nat.le_trans ((Keep.refl h0 [a, kv, kl, kd])).1 zv68
        have qzl68 : h0.size ≤ kl68 := Nat.le_trans ((Keep.refl h0 [a, kv, kl, kd])).1 zl68
        have qzd68 : h0.size ≤ kd68 := Nat.le_trans ((Keep.refl h0 [a, kv, kl, kd])).1 zd68
        have K68 := Keep.trans (Keep.refl h0 [a, kv, kl, kd]) Kq68 (allS (Or.inl (List.mem_of_getElem? (i := 0) rfl)) all0)
        refine own_tr st68 ?_
        show own_G p e below s _ _ _ (T68.setTop (mkF m 56 #[.val (Value.ref a), .val (Value.int x1), .val Value.null, .val (Value.int x3), .val (Value.int (own_dn 64 V D x1 x3)), .val (Value.int (x1 &&& ((64 : Int32) - (1 : Int32))))] []))
        refine own_iloadN X68 hx hby own_d9_56 rfl ?_
        show own_G p e below s _ _ _ (T68.setTop (mkF m 57 #[.val (Value.ref a), .val (Value.int x1), .val Value.null, .val (Value.int x3), .val (Value.int (own_dn 64 V D x1 x3)), .val (Value.int (x1 &&& ((64 : Int32) - (1 : Int32))))] [(Value.int x1)]))
        refine own_aloadN X68 hx hby own_d9_57 rfl rfl ?_
        show own_G p e below s _ _ _ (T68.setTop (mkF m 58 #[.val (Value.ref a), .val (Value.int x1), .val Value.null, .val (Value.int x3), .val (Value.int (own_dn 64 V D x1 x3)), .val (Value.int (x1 &&& ((64 : Int32) - (1 : Int32))))] [(Value.ref a), (Value.int x1)]))
        obtain ⟨T70, X70, e70, st70⟩ := getF X68 hx hZ hown (host := "") (Or.inl (own_w33 hw)) Via.refl rfl Fv68 (g := (mkF m 58 #[.val (Value.ref a), .val (Value.int x1), .val Value.null, .val (Value.int x3), .val (Value.int (own_dn 64 V D x1 x3)), .val (Value.int (x1 &&& ((64 : Int32) - (1 : Int32))))] [(Value.ref a), (Value.int x1)])) rfl rfl (hb hby own_d9_58)
        refine own_st st70 ?_
        show own_G p e below s _ _ _ (T70.setTop (mkF m 61 #[.val (Value.ref a), .val (Value.int x1), .val Value.null, .val (Value.int x3), .val (Value.int (own_dn 64 V D x1 x3)), .val (Value.int (x1 &&& ((64 : Int32) - (1 : Int32))))] [(Value.ref kv68), (Value.int x1)]))
        refine own_alen X70 hx hby hZ e70 Av68 own_d9_61 ?_
        show own_G p e below s _ _ _ (T70.setTop (mkF m 62 #[.val (Value.ref a), .val (Value.int x1), .val Value.null, .val (Value.int x3), .val (Value.int (own_dn 64 V D x1 x3)), .val (Value.int (x1 &&& ((64 : Int32) - (1 : Int32))))] [(Value.int (128 : Int32)), (Value.int x1)]))
        refine own_iconst X70 hx hby own_d9_62 ?_
        show own_G p e below s _ _ _ (T70.setTop (mkF m 63 #[.val (Value.ref a), .val (Value.int x1), .val Value.null, .val (Value.int x3), .val (Value.int (own_dn 64 V D x1 x3)), .val (Value.int (x1 &&& ((64 : Int32) - (1 : Int32))))] [(Value.int (1 : Int32)), (Value.int (128 : Int32)), (Value.int x1)]))
        refine own_isub X70 hx hby own_d9_63 ?_
        show own_G p e below s _ _ _ (T70.setTop (mkF m 64 #[.val (Value.ref a), .val (Value.int x1), .val Value.null, .val (Value.int x3), .val (Value.int (own_dn 64 V D x1 x3)), .val (Value.int (x1 &&& ((64 : Int32) - (1 : Int32))))] [(Value.int ((128 : Int32) - (1 : Int32))), (Value.int x1)]))
        refine own_iand X70 hx hby own_d9_64 ?_
        show own_G p e below s _ _ _ (T70.setTop (mkF m 65 #[.val (Value.ref a), .val (Value.int x1), .val Value.null, .val (Value.int x3), .val (Value.int (own_dn 64 V D x1 x3)), .val (Value.int (x1 &&& ((64 : Int32) - (1 : Int32))))] [(Value.int (x1 &&& ((128 : Int32) - (1 : Int32))))]))
        refine own_istore X70 hx hby own_d9_65 (l' := #[.val (Value.ref a), .val (Value.int x1), .val Value.null, .val (Value.int x3), .val (Value.int (own_dn 64 V D x1 x3)), .val (Value.int (x1 &&& ((128 : Int32) - (1 : Int32))))]) rfl ?_
        show own_G p e below s _ _ _ (T70.setTop (mkF m 67 #[.val (Value.ref a), .val (Value.int x1), .val Value.null, .val (Value.int x3), .val (Value.int (own_dn 64 V D x1 x3)), .val (Value.int (x1 &&& ((128 : Int32) - (1 : Int32))))] []))
        refine own_goto X70 hx hby own_d9_67 (pc' := 30) (by decide) (by decide) ?_
        show own_G p e below s _ _ _ (T70.setTop (mkF m 30 #[.val (Value.ref a), .val (Value.int x1), .val Value.null, .val (Value.int x3), .val (Value.int (own_dn 64 V D x1 x3)), .val (Value.int (x1 &&& ((128 : Int32) - (1 : Int32))))] []))
        refine own_aloadN X70 hx hby own_d9_30 rfl rfl ?_
        show own_G p e below s _ _ _ (T70.setTop (mkF m 31 #[.val (Value.ref a), .val (Value.int x1), .val Value.null, .val (Value.int x3), .val (Value.int (own_dn 64 V D x1 x3)), .val (Value.int (x1 &&& ((128 : Int32) - (1 : Int32))))] [(Value.ref a)]))
        obtain ⟨T71, X71, e71, st71⟩ := getF X70 hx hZ hown (host := "") (Or.inl (own_w33 hw)) Via.refl e70 Fv68 (g := (mkF m 31 #[.val (Value.ref a), .val (Value.int x1), .val Value.null, .val (Value.int x3), .val (Value.int (own_dn 64 V D x1 x3)), .val (Value.int (x1 &&& ((128 : Int32) - (1 : Int32))))] [(Value.ref a)])) rfl rfl (hb hby own_d9_31)
        refine own_st st71 ?_
        show own_G p e below s _ _ _ (T71.setTop (mkF m 34 #[.val (Value.ref a), .val (Value.int x1), .val Value.null, .val (Value.int x3), .val (Value.int (own_dn 64 V D x1 x3)), .val (Value.int (x1 &&& ((128 : Int32) - (1 : Int32))))] [(Value.ref kv68)]))
        refine own_iload X71 hx hby own_d9_34 rfl ?_
        show own_G p e below s _ _ _ (T71.setTop (mkF m 36 #[.val (Value.ref a), .val (Value.int x1), .val Value.null, .val (Value.int x3), .val (Value.int (own_dn 64 V D x1 x3)), .val (Value.int (x1 &&& ((128 : Int32) - (1 : Int32))))] [(Value.int (x1 &&& ((128 : Int32) - (1 : Int32)))), (Value.ref kv68)]))
        refine own_iaload X71 hx hby hZ e71 Av68 (j := (x1 &&& ((128 : Int32) - (1 : Int32)))) (i := (own_ix 128 x1)) (own_and_ix (n := 128) (by unfold own_pw; omega) x1).1 (own_and_ix (n := 128) (by unfold own_pw; omega) x1).2 own_d9_36 ?_
        show own_G p e below s _ _ _ (T71.setTop (mkF m 37 #[.val (Value.ref a), .val (Value.int x1), .val Value.null, .val (Value.int x3), .val (Value.int (own_dn 64 V D x1 x3)), .val (Value.int (x1 &&& ((128 : Int32) - (1 : Int32))))] [(Value.int ((own_gv V 64) (own_ix 128 x1)))]))
        refine own_if_lt X71 hx hby own_d9_37 (pc' := 70) (by decide) (by decide) (fun hb72 => ?_) (fun hb72 => ?_)
        · show own_G p e below s _ _ _ (T71.setTop (mkF m 70 #[.val (Value.ref a), .val (Value.int x1), .val Value.null, .val (Value.int x3), .val (Value.int (own_dn 64 V D x1 x3)), .val (Value.int (x1 &&& ((128 : Int32) - (1 : Int32))))] []))
          refine own_aloadN X71 hx hby own_d9_70 rfl rfl ?_
          show own_G p e below s _ _ _ (T71.setTop (mkF m 71 #[.val (Value.ref a), .val (Value.int x1), .val Value.null, .val (Value.int x3), .val (Value.int (own_dn 64 V D x1 x3)), .val (Value.int (x1 &&& ((128 : Int32) - (1 : Int32))))] [(Value.ref a)]))
          obtain ⟨T73, X73, e73, st73⟩ := getF X71 hx hZ hown (host := "") (Or.inl (own_w33 hw)) Via.refl e71 Fv68 (g := (mkF m 71 #[.val (Value.ref a), .val (Value.int x1), .val Value.null, .val (Value.int x3), .val (Value.int (own_dn 64 V D x1 x3)), .val (Value.int (x1 &&& ((128 : Int32) - (1 : Int32))))] [(Value.ref a)])) rfl rfl (hb hby own_d9_71)
          refine own_st st73 ?_
          show own_G p e below s _ _ _ (T73.setTop (mkF m 74 #[.val (Value.ref a), .val (Value.int x1), .val Value.null, .val (Value.int x3), .val (Value.int (own_dn 64 V D x1 x3)), .val (Value.int (x1 &&& ((128 : Int32) - (1 : Int32))))] [(Value.ref kv68)]))
          refine own_iload X73 hx hby own_d9_74 rfl ?_
          show own_G p e below s _ _ _ (T73.setTop (mkF m 76 #[.val (Value.ref a), .val (Value.int x1), .val Value.null, .val (Value.int x3), .val (Value.int (own_dn 64 V D x1 x3)), .val (Value.int (x1 &&& ((128 : Int32) - (1 : Int32))))] [(Value.int (x1 &&& ((128 : Int32) - (1 : Int32)))), (Value.ref kv68)]))
          refine own_iloadN X73 hx hby own_d9_76 rfl ?_
          show own_G p e below s _ _ _ (T73.setTop (mkF m 77 #[.val (Value.ref a), .val (Value.int x1), .val Value.null, .val (Value.int x3), .val (Value.int (own_dn 64 V D x1 x3)), .val (Value.int (x1 &&& ((128 : Int32) - (1 : Int32))))] [(Value.int x1), (Value.int (x1 &&& ((128 : Int32) - (1 : Int32)))), (Value.ref kv68)]))
          obtain ⟨T74, h74, X74, e74, W74, A74, st74⟩ := own_iastore X73 hx hby hZ e73 Av68 (j := (x1 &&& ((128 : Int32) - (1 : Int32)))) (i := (own_ix 128 x1)) (own_and_ix (n := 128) (by unfold own_pw; omega) x1).1 (own_and_ix (n := 128) (by unfold own_pw; omega) x1).2 (x := x1) own_d9_77 (Ls := #[.val (Value.ref a), .val (Value.int x1), .val Value.null, .val (Value.int x3), .val (Value.int (own_dn 64 V D x1 x3)), .val (Value.int (x1 &&& ((128 : Int32) - (1 : Int32))))]) (st := [])
          have F75_a_limit := Fld.other W74 Fl68 (Or.inl n168)
          have F75_a_vertices := Fld.other W74 Fv68 (Or.inl n168)
          have F75_a_lists := Fld.other W74 Fs68 (Or.inl n168)
          have F75_a_depths := Fld.other W74 Fd68 (Or.inl n168)
          have E75_a := Exa.wr W74 Eq68
          have A75_kl68 := own_Ar.other Al68 W74 (Ne.symm n468)
          have A75_kd68 := own_Ar.other Ad68 W74 (Ne.symm n568)
          have O75 := Old.wr O69 W74 gv68
          have N74 := Fr.snoc X74 N68 gv68
          have K74 := Keep.wr K68 W74 (Or.inr qzv68)
          have A74n : own_Ar Z h74 kv68 .int 128 (fun j => Value.int ((own_up (own_gv V 64) (own_ix 128 x1) x1) j)) := own_Ar.fn A74 (by intro j _; simp only [own_set, own_up]; split <;> rfl)
          refine own_st st74 ?_
          show own_G p e below s _ _ _ (T74.setTop (mkF m 78 #[.val (Value.ref a), .val (Value.int x1), .val Value.null, .val (Value.int x3), .val (Value.int (own_dn 64 V D x1 x3)), .val (Value.int (x1 &&& ((128 : Int32) - (1 : Int32))))] []))
          refine own_aloadN X74 hx hby own_d9_78 rfl rfl ?_
          show own_G p e below s _ _ _ (T74.setTop (mkF m 79 #[.val (Value.ref a), .val (Value.int x1), .val Value.null, .val (Value.int x3), .val (Value.int (own_dn 64 V D x1 x3)), .val (Value.int (x1 &&& ((128 : Int32) - (1 : Int32))))] [(Value.ref a)]))
          obtain ⟨T76, X76, e76, st76⟩ := getF X74 hx hZ hown (host := "") (Or.inl (own_w37 hw)) Via.refl e74 F75_a_lists (g := (mkF m 79 #[.val (Value.ref a), .val (Value.int x1), .val Value.null, .val (Value.int x3), .val (Value.int (own_dn 64 V D x1 x3)), .val (Value.int (x1 &&& ((128 : Int32) - (1 : Int32))))] [(Value.ref a)])) rfl rfl (hb hby own_d9_79)
          refine own_st st76 ?_
          show own_G p e below s _ _ _ (T76.setTop (mkF m 82 #[.val (Value.ref a), .val (Value.int x1), .val Value.null, .val (Value.int x3), .val (Value.int (own_dn 64 V D x1 x3)), .val (Value.int (x1 &&& ((128 : Int32) - (1 : Int32))))] [(Value.ref kl68)]))
          refine own_iload X76 hx hby own_d9_82 rfl ?_
          show own_G p e below s _ _ _ (T76.setTop (mkF m 84 #[.val (Value.ref a), .val (Value.int x1), .val Value.null, .val (Value.int x3), .val (Value.int (own_dn 64 V D x1 x3)), .val (Value.int (x1 &&& ((128 : Int32) - (1 : Int32))))] [(Value.int (x1 &&& ((128 : Int32) - (1 : Int32)))), (Value.ref kl68)]))
          refine own_aloadN X76 hx hby own_d9_84 rfl rfl ?_
          show own_G p e below s _ _ _ (T76.setTop (mkF m 85 #[.val (Value.ref a), .val (Value.int x1), .val Value.null, .val (Value.int x3), .val (Value.int (own_dn 64 V D x1 x3)), .val (Value.int (x1 &&& ((128 : Int32) - (1 : Int32))))] [Value.null, (Value.int (x1 &&& ((128 : Int32) - (1 : Int32)))), (Value.ref kl68)]))
          obtain ⟨T77, h77, X77, e77, W77, A77, st77⟩ := own_aastore X76 hx hby hZ e76 A75_kl68 rfl (j := (x1 &&& ((128 : Int32) - (1 : Int32)))) (i := (own_ix 128 x1)) (own_and_ix (n := 128) (by unfold own_pw; omega) x1).1 (own_and_ix (n := 128) (by unfold own_pw; omega) x1).2 (Or.inl rfl) own_d9_85 (Ls := #[.val (Value.ref a), .val (Value.int x1), .val Value.null, .val (Value.int x3), .val (Value.int (own_dn 64 V D x1 x3)), .val (Value.int (x1 &&& ((128 : Int32) - (1 : Int32))))]) (st := [])
          have F78_a_limit := Fld.other W77 F75_a_limit (Or.inl n268)
          have F78_a_vertices := Fld.other W77 F75_a_vertices (Or.inl n268)
          have F78_a_lists := Fld.other W77 F75_a_lists (Or.inl n268)
          have F78_a_depths := Fld.other W77 F75_a_depths (Or.inl n268)
          have E78_a := Exa.wr W77 E75_a
          have A78_kv68 := own_Ar.other A74n W77 n468
          have A78_kd68 := own_Ar.other A75_kd68 W77 (Ne.symm n668)
          have O78 := Old.wr O75 W77 gl68
          have N77 := Fr.snoc X77 N74 gl68
          have K77 := Keep.wr K74 W77 (Or.inr qzl68)
          have A77n : own_Ar Z h77 kl68 (.array .int) 128 (fun _ => Value.null) := own_Ar.fn A77 (by intro j _; simp only [own_set]; split <;> rfl)
          refine own_st st77 ?_
          show own_G p e below s _ _ _ (T77.setTop (mkF m 86 #[.val (Value.ref a), .val (Value.int x1), .val Value.null, .val (Value.int x3), .val (Value.int (own_dn 64 V D x1 x3)), .val (Value.int (x1 &&& ((128 : Int32) - (1 : Int32))))] []))
          refine own_aloadN X77 hx hby own_d9_86 rfl rfl ?_
          show own_G p e below s _ _ _ (T77.setTop (mkF m 87 #[.val (Value.ref a), .val (Value.int x1), .val Value.null, .val (Value.int x3), .val (Value.int (own_dn 64 V D x1 x3)), .val (Value.int (x1 &&& ((128 : Int32) - (1 : Int32))))] [(Value.ref a)]))
          obtain ⟨T79, X79, e79, st79⟩ := getF X77 hx hZ hown (host := "") (Or.inl (own_w39 hw)) Via.refl e77 F78_a_depths (g := (mkF m 87 #[.val (Value.ref a), .val (Value.int x1), .val Value.null, .val (Value.int x3), .val (Value.int (own_dn 64 V D x1 x3)), .val (Value.int (x1 &&& ((128 : Int32) - (1 : Int32))))] [(Value.ref a)])) rfl rfl (hb hby own_d9_87)
          refine own_st st79 ?_
          show own_G p e below s _ _ _ (T79.setTop (mkF m 90 #[.val (Value.ref a), .val (Value.int x1), .val Value.null, .val (Value.int x3), .val (Value.int (own_dn 64 V D x1 x3)), .val (Value.int (x1 &&& ((128 : Int32) - (1 : Int32))))] [(Value.ref kd68)]))
          refine own_iload X79 hx hby own_d9_90 rfl ?_
          show own_G p e below s _ _ _ (T79.setTop (mkF m 92 #[.val (Value.ref a), .val (Value.int x1), .val Value.null, .val (Value.int x3), .val (Value.int (own_dn 64 V D x1 x3)), .val (Value.int (x1 &&& ((128 : Int32) - (1 : Int32))))] [(Value.int (x1 &&& ((128 : Int32) - (1 : Int32)))), (Value.ref kd68)]))
          refine own_iload X79 hx hby own_d9_92 rfl ?_
          show own_G p e below s _ _ _ (T79.setTop (mkF m 94 #[.val (Value.ref a), .val (Value.int x1), .val Value.null, .val (Value.int x3), .val (Value.int (own_dn 64 V D x1 x3)), .val (Value.int (x1 &&& ((128 : Int32) - (1 : Int32))))] [(Value.int (own_dn 64 V D x1 x3)), (Value.int (x1 &&& ((128 : Int32) - (1 : Int32)))), (Value.ref kd68)]))
          obtain ⟨T80, h80, X80, e80, W80, A80, st80⟩ := own_iastore X79 hx hby hZ e79 A78_kd68 (j := (x1 &&& ((128 : Int32) - (1 : Int32)))) (i := (own_ix 128 x1)) (own_and_ix (n := 128) (by unfold own_pw; omega) x1).1 (own_and_ix (n := 128) (by unfold own_pw; omega) x1).2 (x := (own_dn 64 V D x1 x3)) own_d9_94 (Ls := #[.val (Value.ref a), .val (Value.int x1), .val Value.null, .val (Value.int x3), .val (Value.int (own_dn 64 V D x1 x3)), .val (Value.int (x1 &&& ((128 : Int32) - (1 : Int32))))]) (st := [])
          have F81_a_limit := Fld.other W80 F78_a_limit (Or.inl n368)
          have F81_a_vertices := Fld.other W80 F78_a_vertices (Or.inl n368)
          have F81_a_lists := Fld.other W80 F78_a_lists (Or.inl n368)
          have F81_a_depths := Fld.other W80 F78_a_depths (Or.inl n368)
          have E81_a := Exa.wr W80 E78_a
          have A81_kv68 := own_Ar.other A78_kv68 W80 n568
          have A81_kl68 := own_Ar.other A77n W80 n668
          have O81 := Old.wr O78 W80 gd68
          have N80 := Fr.snoc X80 N77 gd68
          have K80 := Keep.wr K77 W80 (Or.inr qzd68)
          have A80n : own_Ar Z h80 kd68 .int 128 (fun j => Value.int ((own_up (own_gd V D 64) (own_ix 128 x1) (own_dn 64 V D x1 x3)) j)) := own_Ar.fn A80 (by intro j _; simp only [own_set, own_up]; split <;> rfl)
          refine own_st st80 ?_
          show own_G p e below s _ _ _ (T80.setTop (mkF m 95 #[.val (Value.ref a), .val (Value.int x1), .val Value.null, .val (Value.int x3), .val (Value.int (own_dn 64 V D x1 x3)), .val (Value.int (x1 &&& ((128 : Int32) - (1 : Int32))))] []))
          refine own_ret0 X80 hx hby hlk Bd.returns own_d9_95 (by decide) (by decide) ?_
          show own_rmKG_Q Z a x1 x3 lim kv kl kd 64 V D h0 n0 _ T80.heap _
          rw [e80]
          exact ⟨rfl, N80, K80, kv68, kl68, kd68, _, _, _, (by unfold own_pw; omega), (Or.inl hl), own_put2 hI hv0 hl, E81_a, F81_a_limit, F81_a_vertices, F81_a_lists, F81_a_depths, A81_kv68, A81_kl68, A80n, gv68, gl68, gd68, n168, n268, n368, n468, n568, n668⟩
        · show own_G p e below s _ _ _ (T71.setTop (mkF m 40 #[.val (Value.ref a), .val (Value.int x1), .val Value.null, .val (Value.int x3), .val (Value.int (own_dn 64 V D x1 x3)), .val (Value.int (x1 &&& ((128 : Int32) - (1 : Int32))))] []))
          refine own_aloadN X71 hx hby own_d9_40 rfl rfl ?_
          show own_G p e below s _ _ _ (T71.setTop (mkF m 41 #[.val (Value.ref a), .val (Value.int x1), .val Value.null, .val (Value.int x3), .val (Value.int (own_dn 64 V D x1 x3)), .val (Value.int (x1 &&& ((128 : Int32) - (1 : Int32))))] [(Value.ref a)]))
          obtain ⟨T82, X82, e82, st82⟩ := getF X71 hx hZ hown (host := "") (Or.inl (own_w33 hw)) Via.refl e71 Fv68 (g := (mkF m 41 #[.val (Value.ref a), .val (Value.int x1), .val Value.null, .val (Value.int x3), .val (Value.int (own_dn 64 V D x1 x3)), .val (Value.int (x1 &&& ((128 : Int32) - (1 : Int32))))] [(Value.ref a)])) rfl rfl (hb hby own_d9_41)
          refine own_st st82 ?_
          show own_G p e below s _ _ _ (T82.setTop (mkF m 44 #[.val (Value.ref a), .val (Value.int x1), .val Value.null, .val (Value.int x3), .val (Value.int (own_dn 64 V D x1 x3)), .val (Value.int (x1 &&& ((128 : Int32) - (1 : Int32))))] [(Value.ref kv68)]))
          refine own_alen X82 hx hby hZ e82 Av68 own_d9_44 ?_
          show own_G p e below s _ _ _ (T82.setTop (mkF m 45 #[.val (Value.ref a), .val (Value.int x1), .val Value.null, .val (Value.int x3), .val (Value.int (own_dn 64 V D x1 x3)), .val (Value.int (x1 &&& ((128 : Int32) - (1 : Int32))))] [(Value.int (128 : Int32))]))
          refine own_aloadN X82 hx hby own_d9_45 rfl rfl ?_
          show own_G p e below s _ _ _ (T82.setTop (mkF m 46 #[.val (Value.ref a), .val (Value.int x1), .val Value.null, .val (Value.int x3), .val (Value.int (own_dn 64 V D x1 x3)), .val (Value.int (x1 &&& ((128 : Int32) - (1 : Int32))))] [(Value.ref a), (Value.int (128 : Int32))]))
          obtain ⟨T83, X83, e83, st83⟩ := getF X82 hx hZ hown (host := "") (Or.inl (own_w27 hw)) Via.refl e82 Fl68 (g := (mkF m 46 #[.val (Value.ref a), .val (Value.int x1), .val Value.null, .val (Value.int x3), .val (Value.int (own_dn 64 V D x1 x3)), .val (Value.int (x1 &&& ((128 : Int32) - (1 : Int32))))] [(Value.ref a), (Value.int (128 : Int32))])) rfl rfl (hb hby own_d9_46)
          refine own_st st83 ?_
          show own_G p e below s _ _ _ (T83.setTop (mkF m 49 #[.val (Value.ref a), .val (Value.int x1), .val Value.null, .val (Value.int x3), .val (Value.int (own_dn 64 V D x1 x3)), .val (Value.int (x1 &&& ((128 : Int32) - (1 : Int32))))] [(Value.int lim), (Value.int (128 : Int32))]))
          refine own_icmp_ge X83 hx hby own_d9_49 (pc' := 70) (by decide) (by decide) (fun hb84 => ?_) (fun hb84 => by exfalso; rw [Int32.lt_iff_toInt_lt] at hb84; simp only [Int32.reduceToInt] at hb84; omega)
          show own_G p e below s _ _ _ (T83.setTop (mkF m 70 #[.val (Value.ref a), .val (Value.int x1), .val Value.null, .val (Value.int x3), .val (Value.int (own_dn 64 V D x1 x3)), .val (Value.int (x1 &&& ((128 : Int32) - (1 : Int32))))] []))
          refine own_aloadN X83 hx hby own_d9_70 rfl rfl ?_
          show own_G p e below s _ _ _ (T83.setTop (mkF m 71 #[.val (Value.ref a), .val (Value.int x1), .val Value.null, .val (Value.int x3), .val (Value.int (own_dn 64 V D x1 x3)), .val (Value.int (x1 &&& ((128 : Int32) - (1 : Int32))))] [(Value.ref a)]))
          obtain ⟨T85, X85, e85, st85⟩ := getF X83 hx hZ hown (host := "") (Or.inl (own_w33 hw)) Via.refl e83 Fv68 (g := (mkF m 71 #[.val (Value.ref a), .val (Value.int x1), .val Value.null, .val (Value.int x3), .val (Value.int (own_dn 64 V D x1 x3)), .val (Value.int (x1 &&& ((128 : Int32) - (1 : Int32))))] [(Value.ref a)])) rfl rfl (hb hby own_d9_71)
          refine own_st st85 ?_
          show own_G p e below s _ _ _ (T85.setTop (mkF m 74 #[.val (Value.ref a), .val (Value.int x1), .val Value.null, .val (Value.int x3), .val (Value.int (own_dn 64 V D x1 x3)), .val (Value.int (x1 &&& ((128 : Int32) - (1 : Int32))))] [(Value.ref kv68)]))
          refine own_iload X85 hx hby own_d9_74 rfl ?_
          show own_G p e below s _ _ _ (T85.setTop (mkF m 76 #[.val (Value.ref a), .val (Value.int x1), .val Value.null, .val (Value.int x3), .val (Value.int (own_dn 64 V D x1 x3)), .val (Value.int (x1 &&& ((128 : Int32) - (1 : Int32))))] [(Value.int (x1 &&& ((128 : Int32) - (1 : Int32)))), (Value.ref kv68)]))
          refine own_iloadN X85 hx hby own_d9_76 rfl ?_
          show own_G p e below s _ _ _ (T85.setTop (mkF m 77 #[.val (Value.ref a), .val (Value.int x1), .val Value.null, .val (Value.int x3), .val (Value.int (own_dn 64 V D x1 x3)), .val (Value.int (x1 &&& ((128 : Int32) - (1 : Int32))))] [(Value.int x1), (Value.int (x1 &&& ((128 : Int32) - (1 : Int32)))), (Value.ref kv68)]))
          obtain ⟨T86, h86, X86, e86, W86, A86, st86⟩ := own_iastore X85 hx hby hZ e85 Av68 (j := (x1 &&& ((128 : Int32) - (1 : Int32)))) (i := (own_ix 128 x1)) (own_and_ix (n := 128) (by unfold own_pw; omega) x1).1 (own_and_ix (n := 128) (by unfold own_pw; omega) x1).2 (x := x1) own_d9_77 (Ls := #[.val (Value.ref a), .val (Value.int x1), .val Value.null, .val (Value.int x3), .val (Value.int (own_dn 64 V D x1 x3)), .val (Value.int (x1 &&& ((128 : Int32) - (1 : Int32))))]) (st := [])
          have F87_a_limit := Fld.other W86 Fl68 (Or.inl n168)
          have F87_a_vertices := Fld.other W86 Fv68 (Or.inl n168)
          have F87_a_lists := Fld.other W86 Fs68 (Or.inl n168)
          have F87_a_depths := Fld.other W86 Fd68 (Or.inl n168)
          have E87_a := Exa.wr W86 Eq68
          have A87_kl68 := own_Ar.other Al68 W86 (Ne.symm n468)
          have A87_kd68 := own_Ar.other Ad68 W86 (Ne.symm n568)
          have O87 := Old.wr O69 W86 gv68
          have N86 := Fr.snoc X86 N68 gv68
          have K86 := Keep.wr K68 W86 (Or.inr qzv68)
          have A86n : own_Ar Z h86 kv68 .int 128 (fun j => Value.int ((own_up (own_gv V 64) (own_ix 128 x1) x1) j)) := own_Ar.fn A86 (by intro j _; simp only [own_set, own_up]; split <;> rfl)
          refine own_st st86 ?_
          show own_G p e below s _ _ _ (T86.setTop (mkF m 78 #[.val (Value.ref a), .val (Value.int x1), .val Value.null, .val (Value.int x3), .val (Value.int (own_dn 64 V D x1 x3)), .val (Value.int (x1 &&& ((128 : Int32) - (1 : Int32))))] []))
          refine own_aloadN X86 hx hby own_d9_78 rfl rfl ?_
          show own_G p e below s _ _ _ (T86.setTop (mkF m 79 #[.val (Value.ref a), .val (Value.int x1), .val Value.null, .val (Value.int x3), .val (Value.int (own_dn 64 V D x1 x3)), .val (Value.int (x1 &&& ((128 : Int32) - (1 : Int32))))] [(Value.ref a)]))
          obtain ⟨T88, X88, e88, st88⟩ := getF X86 hx hZ hown (host := "") (Or.inl (own_w37 hw)) Via.refl e86 F87_a_lists (g := (mkF m 79 #[.val (Value.ref a), .val (Value.int x1), .val Value.null, .val (Value.int x3), .val (Value.int (own_dn 64 V D x1 x3)), .val (Value.int (x1 &&& ((128 : Int32) - (1 : Int32))))] [(Value.ref a)])) rfl rfl (hb hby own_d9_79)
          refine own_st st88 ?_
          show own_G p e below s _ _ _ (T88.setTop (mkF m 82 #[.val (Value.ref a), .val (Value.int x1), .val Value.null, .val (Value.int x3), .val (Value.int (own_dn 64 V D x1 x3)), .val (Value.int (x1 &&& ((128 : Int32) - (1 : Int32))))] [(Value.ref kl68)]))
          refine own_iload X88 hx hby own_d9_82 rfl ?_
          show own_G p e below s _ _ _ (T88.setTop (mkF m 84 #[.val (Value.ref a), .val (Value.int x1), .val Value.null, .val (Value.int x3), .val (Value.int (own_dn 64 V D x1 x3)), .val (Value.int (x1 &&& ((128 : Int32) - (1 : Int32))))] [(Value.int (x1 &&& ((128 : Int32) - (1 : Int32)))), (Value.ref kl68)]))
          refine own_aloadN X88 hx hby own_d9_84 rfl rfl ?_
          show own_G p e below s _ _ _ (T88.setTop (mkF m 85 #[.val (Value.ref a), .val (Value.int x1), .val Value.null, .val (Value.int x3), .val (Value.int (own_dn 64 V D x1 x3)), .val (Value.int (x1 &&& ((128 : Int32) - (1 : Int32))))] [Value.null, (Value.int (x1 &&& ((128 : Int32) - (1 : Int32)))), (Value.ref kl68)]))
          obtain ⟨T89, h89, X89, e89, W89, A89, st89⟩ := own_aastore X88 hx hby hZ e88 A87_kl68 rfl (j := (x1 &&& ((128 : Int32) - (1 : Int32)))) (i := (own_ix 128 x1)) (own_and_ix (n := 128) (by unfold own_pw; omega) x1).1 (own_and_ix (n := 128) (by unfold own_pw; omega) x1).2 (Or.inl rfl) own_d9_85 (Ls := #[.val (Value.ref a), .val (Value.int x1), .val Value.null, .val (Value.int x3), .val (Value.int (own_dn 64 V D x1 x3)), .val (Value.int (x1 &&& ((128 : Int32) - (1 : Int32))))]) (st := [])
          have F90_a_limit := Fld.other W89 F87_a_limit (Or.inl n268)
          have F90_a_vertices := Fld.other W89 F87_a_vertices (Or.inl n268)
          have F90_a_lists := Fld.other W89 F87_a_lists (Or.inl n268)
          have F90_a_depths := Fld.other W89 F87_a_depths (Or.inl n268)
          have E90_a := Exa.wr W89 E87_a
          have A90_kv68 := own_Ar.other A86n W89 n468
          have A90_kd68 := own_Ar.other A87_kd68 W89 (Ne.symm n668)
          have O90 := Old.wr O87 W89 gl68
          have N89 := Fr.snoc X89 N86 gl68
          have K89 := Keep.wr K86 W89 (Or.inr qzl68)
          have A89n : own_Ar Z h89 kl68 (.array .int) 128 (fun _ => Value.null) := own_Ar.fn A89 (by intro j _; simp only [own_set]; split <;> rfl)
          refine own_st st89 ?_
          show own_G p e below s _ _ _ (T89.setTop (mkF m 86 #[.val (Value.ref a), .val (Value.int x1), .val Value.null, .val (Value.int x3), .val (Value.int (own_dn 64 V D x1 x3)), .val (Value.int (x1 &&& ((128 : Int32) - (1 : Int32))))] []))
          refine own_aloadN X89 hx hby own_d9_86 rfl rfl ?_
          show own_G p e below s _ _ _ (T89.setTop (mkF m 87 #[.val (Value.ref a), .val (Value.int x1), .val Value.null, .val (Value.int x3), .val (Value.int (own_dn 64 V D x1 x3)), .val (Value.int (x1 &&& ((128 : Int32) - (1 : Int32))))] [(Value.ref a)]))
          obtain ⟨T91, X91, e91, st91⟩ := getF X89 hx hZ hown (host := "") (Or.inl (own_w39 hw)) Via.refl e89 F90_a_depths (g := (mkF m 87 #[.val (Value.ref a), .val (Value.int x1), .val Value.null, .val (Value.int x3), .val (Value.int (own_dn 64 V D x1 x3)), .val (Value.int (x1 &&& ((128 : Int32) - (1 : Int32))))] [(Value.ref a)])) rfl rfl (hb hby own_d9_87)
          refine own_st st91 ?_
          show own_G p e below s _ _ _ (T91.setTop (mkF m 90 #[.val (Value.ref a), .val (Value.int x1), .val Value.null, .val (Value.int x3), .val (Value.int (own_dn 64 V D x1 x3)), .val (Value.int (x1 &&& ((128 : Int32) - (1 : Int32))))] [(Value.ref kd68)]))
          refine own_iload X91 hx hby own_d9_90 rfl ?_
          show own_G p e below s _ _ _ (T91.setTop (mkF m 92 #[.val (Value.ref a), .val (Value.int x1), .val Value.null, .val (Value.int x3), .val (Value.int (own_dn 64 V D x1 x3)), .val (Value.int (x1 &&& ((128 : Int32) - (1 : Int32))))] [(Value.int (x1 &&& ((128 : Int32) - (1 : Int32)))), (Value.ref kd68)]))
          refine own_iload X91 hx hby own_d9_92 rfl ?_
          show own_G p e below s _ _ _ (T91.setTop (mkF m 94 #[.val (Value.ref a), .val (Value.int x1), .val Value.null, .val (Value.int x3), .val (Value.int (own_dn 64 V D x1 x3)), .val (Value.int (x1 &&& ((128 : Int32) - (1 : Int32))))] [(Value.int (own_dn 64 V D x1 x3)), (Value.int (x1 &&& ((128 : Int32) - (1 : Int32)))), (Value.ref kd68)]))
          obtain ⟨T92, h92, X92, e92, W92, A92, st92⟩ := own_iastore X91 hx hby hZ e91 A90_kd68 (j := (x1 &&& ((128 : Int32) - (1 : Int32)))) (i := (own_ix 128 x1)) (own_and_ix (n := 128) (by unfold own_pw; omega) x1).1 (own_and_ix (n := 128) (by unfold own_pw; omega) x1).2 (x := (own_dn 64 V D x1 x3)) own_d9_94 (Ls := #[.val (Value.ref a), .val (Value.int x1), .val Value.null, .val (Value.int x3), .val (Value.int (own_dn 64 V D x1 x3)), .val (Value.int (x1 &&& ((128 : Int32) - (1 : Int32))))]) (st := [])
          have F93_a_limit := Fld.other W92 F90_a_limit (Or.inl n368)
          have F93_a_vertices := Fld.other W92 F90_a_vertices (Or.inl n368)
          have F93_a_lists := Fld.other W92 F90_a_lists (Or.inl n368)
          have F93_a_depths := Fld.other W92 F90_a_depths (Or.inl n368)
          have E93_a := Exa.wr W92 E90_a
          have A93_kv68 := own_Ar.other A90_kv68 W92 n568
          have A93_kl68 := own_Ar.other A89n W92 n668
          have O93 := Old.wr O90 W92 gd68
          have N92 := Fr.snoc X92 N89 gd68
          have K92 := Keep.wr K89 W92 (Or.inr qzd68)
          have A92n : own_Ar Z h92 kd68 .int 128 (fun j => Value.int ((own_up (own_gd V D 64) (own_ix 128 x1) (own_dn 64 V D x1 x3)) j)) := own_Ar.fn A92 (by intro j _; simp only [own_set, own_up]; split <;> rfl)
          refine own_st st92 ?_
          show own_G p e below s _ _ _ (T92.setTop (mkF m 95 #[.val (Value.ref a), .val (Value.int x1), .val Value.null, .val (Value.int x3), .val (Value.int (own_dn 64 V D x1 x3)), .val (Value.int (x1 &&& ((128 : Int32) - (1 : Int32))))] []))
          refine own_ret0 X92 hx hby hlk Bd.returns own_d9_95 (by decide) (by decide) ?_
          show own_rmKG_Q Z a x1 x3 lim kv kl kd 64 V D h0 n0 _ T92.heap _
          rw [e92]
          exact ⟨rfl, N92, K92, kv68, kl68, kd68, _, _, _, (by unfold own_pw; omega), (Or.inl hl), own_put2 hI hv0 hl, E93_a, F93_a_limit, F93_a_vertices, F93_a_lists, F93_a_depths, A93_kv68, A93_kl68, A92n, gv68, gl68, gd68, n168, n268, n368, n468, n568, n668⟩
    · show own_G p e below s _ _ _ (s₁.setTop (mkF m 4 #[.val (Value.ref a), .val (Value.int x1), .val Value.null, .val (Value.int x3), .unset, .unset] []))
      refine own_iconst X0 hx hby own_d9_4 ?_
      show own_G p e below s _ _ _ (s₁.setTop (mkF m 5 #[.val (Value.ref a), .val (Value.int x1), .val Value.null, .val (Value.int x3), .unset, .unset] [(Value.int (0 : Int32))]))
      refine own_goto X0 hx hby own_d9_5 (pc' := 17) (by decide) (by decide) ?_
      show own_G p e below s _ _ _ (s₁.setTop (mkF m 17 #[.val (Value.ref a), .val (Value.int x1), .val Value.null, .val (Value.int x3), .unset, .unset] [(Value.int (0 : Int32))]))
      rw [show ((0 : Int32) : Int32) = (own_dn 64 V D x1 x3) from (if_pos hb51).symm]
      refine own_istore X0 hx hby own_d9_17 (l' := #[.val (Value.ref a), .val (Value.int x1), .val Value.null, .val (Value.int x3), .val (Value.int (own_dn 64 V D x1 x3)), .unset]) rfl ?_
      show own_G p e below s _ _ _ (s₁.setTop (mkF m 19 #[.val (Value.ref a), .val (Value.int x1), .val Value.null, .val (Value.int x3), .val (Value.int (own_dn 64 V D x1 x3)), .unset] []))
      refine own_iloadN X0 hx hby own_d9_19 rfl ?_
      show own_G p e below s _ _ _ (s₁.setTop (mkF m 20 #[.val (Value.ref a), .val (Value.int x1), .val Value.null, .val (Value.int x3), .val (Value.int (own_dn 64 V D x1 x3)), .unset] [(Value.int x1)]))
      refine own_aloadN X0 hx hby own_d9_20 rfl rfl ?_
      show own_G p e below s _ _ _ (s₁.setTop (mkF m 21 #[.val (Value.ref a), .val (Value.int x1), .val Value.null, .val (Value.int x3), .val (Value.int (own_dn 64 V D x1 x3)), .unset] [(Value.ref a), (Value.int x1)]))
      obtain ⟨T94, X94, e94, st94⟩ := getF X0 hx hZ hown (host := "") (Or.inl (own_w33 hw)) Via.refl e0 F_v (g := (mkF m 21 #[.val (Value.ref a), .val (Value.int x1), .val Value.null, .val (Value.int x3), .val (Value.int (own_dn 64 V D x1 x3)), .unset] [(Value.ref a), (Value.int x1)])) rfl rfl (hb hby own_d9_21)
      refine own_st st94 ?_
      show own_G p e below s _ _ _ (T94.setTop (mkF m 24 #[.val (Value.ref a), .val (Value.int x1), .val Value.null, .val (Value.int x3), .val (Value.int (own_dn 64 V D x1 x3)), .unset] [(Value.ref kv), (Value.int x1)]))
      refine own_alen X94 hx hby hZ e94 A_v own_d9_24 ?_
      show own_G p e below s _ _ _ (T94.setTop (mkF m 25 #[.val (Value.ref a), .val (Value.int x1), .val Value.null, .val (Value.int x3), .val (Value.int (own_dn 64 V D x1 x3)), .unset] [(Value.int (64 : Int32)), (Value.int x1)]))
      refine own_iconst X94 hx hby own_d9_25 ?_
      show own_G p e below s _ _ _ (T94.setTop (mkF m 26 #[.val (Value.ref a), .val (Value.int x1), .val Value.null, .val (Value.int x3), .val (Value.int (own_dn 64 V D x1 x3)), .unset] [(Value.int (1 : Int32)), (Value.int (64 : Int32)), (Value.int x1)]))
      refine own_isub X94 hx hby own_d9_26 ?_
      show own_G p e below s _ _ _ (T94.setTop (mkF m 27 #[.val (Value.ref a), .val (Value.int x1), .val Value.null, .val (Value.int x3), .val (Value.int (own_dn 64 V D x1 x3)), .unset] [(Value.int ((64 : Int32) - (1 : Int32))), (Value.int x1)]))
      refine own_iand X94 hx hby own_d9_27 ?_
      show own_G p e below s _ _ _ (T94.setTop (mkF m 28 #[.val (Value.ref a), .val (Value.int x1), .val Value.null, .val (Value.int x3), .val (Value.int (own_dn 64 V D x1 x3)), .unset] [(Value.int (x1 &&& ((64 : Int32) - (1 : Int32))))]))
      refine own_istore X94 hx hby own_d9_28 (l' := #[.val (Value.ref a), .val (Value.int x1), .val Value.null, .val (Value.int x3), .val (Value.int (own_dn 64 V D x1 x3)), .val (Value.int (x1 &&& ((64 : Int32) - (1 : Int32))))]) rfl ?_
      show own_G p e below s _ _ _ (T94.setTop (mkF m 30 #[.val (Value.ref a), .val (Value.int x1), .val Value.null, .val (Value.int x3), .val (Value.int (own_dn 64 V D x1 x3)), .val (Value.int (x1 &&& ((64 : Int32) - (1 : Int32))))] []))
      refine own_aloadN X94 hx hby own_d9_30 rfl rfl ?_
      show own_G p e below s _ _ _ (T94.setTop (mkF m 31 #[.val (Value.ref a), .val (Value.int x1), .val Value.null, .val (Value.int x3), .val (Value.int (own_dn 64 V D x1 x3)), .val (Value.int (x1 &&& ((64 : Int32) - (1 : Int32))))] [(Value.ref a)]))
      obtain ⟨T95, X95, e95, st95⟩ := getF X94 hx hZ hown (host := "") (Or.inl (own_w33 hw)) Via.refl e94 F_v (g := (mkF m 31 #[.val (Value.ref a), .val (Value.int x1), .val Value.null, .val (Value.int x3), .val (Value.int (own_dn 64 V D x1 x3)), .val (Value.int (x1 &&& ((64 : Int32) - (1 : Int32))))] [(Value.ref a)])) rfl rfl (hb hby own_d9_31)
      refine own_st st95 ?_
      show own_G p e below s _ _ _ (T95.setTop (mkF m 34 #[.val (Value.ref a), .val (Value.int x1), .val Value.null, .val (Value.int x3), .val (Value.int (own_dn 64 V D x1 x3)), .val (Value.int (x1 &&& ((64 : Int32) - (1 : Int32))))] [(Value.ref kv)]))
      refine own_iload X95 hx hby own_d9_34 rfl ?_
      show own_G p e below s _ _ _ (T95.setTop (mkF m 36 #[.val (Value.ref a), .val (Value.int x1), .val Value.null, .val (Value.int x3), .val (Value.int (own_dn 64 V D x1 x3)), .val (Value.int (x1 &&& ((64 : Int32) - (1 : Int32))))] [(Value.int (x1 &&& ((64 : Int32) - (1 : Int32)))), (Value.ref kv)]))
      refine own_iaload X95 hx hby hZ e95 A_v (j := (x1 &&& ((64 : Int32) - (1 : Int32)))) (i := (own_ix 64 x1)) (own_and_ix (n := 64) hpw x1).1 (own_and_ix (n := 64) hpw x1).2 own_d9_36 ?_
      show own_G p e below s _ _ _ (T95.setTop (mkF m 37 #[.val (Value.ref a), .val (Value.int x1), .val Value.null, .val (Value.int x3), .val (Value.int (own_dn 64 V D x1 x3)), .val (Value.int (x1 &&& ((64 : Int32) - (1 : Int32))))] [(Value.int (V (own_ix 64 x1)))]))
      refine own_if_lt X95 hx hby own_d9_37 (pc' := 70) (by decide) (by decide) (fun hb96 => ?_) (fun hb96 => ?_)
      · show own_G p e below s _ _ _ (T95.setTop (mkF m 70 #[.val (Value.ref a), .val (Value.int x1), .val Value.null, .val (Value.int x3), .val (Value.int (own_dn 64 V D x1 x3)), .val (Value.int (x1 &&& ((64 : Int32) - (1 : Int32))))] []))
        refine own_aloadN X95 hx hby own_d9_70 rfl rfl ?_
        show own_G p e below s _ _ _ (T95.setTop (mkF m 71 #[.val (Value.ref a), .val (Value.int x1), .val Value.null, .val (Value.int x3), .val (Value.int (own_dn 64 V D x1 x3)), .val (Value.int (x1 &&& ((64 : Int32) - (1 : Int32))))] [(Value.ref a)]))
        obtain ⟨T97, X97, e97, st97⟩ := getF X95 hx hZ hown (host := "") (Or.inl (own_w33 hw)) Via.refl e95 F_v (g := (mkF m 71 #[.val (Value.ref a), .val (Value.int x1), .val Value.null, .val (Value.int x3), .val (Value.int (own_dn 64 V D x1 x3)), .val (Value.int (x1 &&& ((64 : Int32) - (1 : Int32))))] [(Value.ref a)])) rfl rfl (hb hby own_d9_71)
        refine own_st st97 ?_
        show own_G p e below s _ _ _ (T97.setTop (mkF m 74 #[.val (Value.ref a), .val (Value.int x1), .val Value.null, .val (Value.int x3), .val (Value.int (own_dn 64 V D x1 x3)), .val (Value.int (x1 &&& ((64 : Int32) - (1 : Int32))))] [(Value.ref kv)]))
        refine own_iload X97 hx hby own_d9_74 rfl ?_
        show own_G p e below s _ _ _ (T97.setTop (mkF m 76 #[.val (Value.ref a), .val (Value.int x1), .val Value.null, .val (Value.int x3), .val (Value.int (own_dn 64 V D x1 x3)), .val (Value.int (x1 &&& ((64 : Int32) - (1 : Int32))))] [(Value.int (x1 &&& ((64 : Int32) - (1 : Int32)))), (Value.ref kv)]))
        refine own_iloadN X97 hx hby own_d9_76 rfl ?_
        show own_G p e below s _ _ _ (T97.setTop (mkF m 77 #[.val (Value.ref a), .val (Value.int x1), .val Value.null, .val (Value.int x3), .val (Value.int (own_dn 64 V D x1 x3)), .val (Value.int (x1 &&& ((64 : Int32) - (1 : Int32))))] [(Value.int x1), (Value.int (x1 &&& ((64 : Int32) - (1 : Int32)))), (Value.ref kv)]))
        obtain ⟨T98, h98, X98, e98, W98, A98, st98⟩ := own_iastore X97 hx hby hZ e97 A_v (j := (x1 &&& ((64 : Int32) - (1 : Int32)))) (i := (own_ix 64 x1)) (own_and_ix (n := 64) hpw x1).1 (own_and_ix (n := 64) hpw x1).2 (x := x1) own_d9_77 (Ls := #[.val (Value.ref a), .val (Value.int x1), .val Value.null, .val (Value.int x3), .val (Value.int (own_dn 64 V D x1 x3)), .val (Value.int (x1 &&& ((64 : Int32) - (1 : Int32))))]) (st := [])
        have F99_a_limit := Fld.other W98 F_lim (Or.inl nav)
        have F99_a_vertices := Fld.other W98 F_v (Or.inl nav)
        have F99_a_lists := Fld.other W98 F_l (Or.inl nav)
        have F99_a_depths := Fld.other W98 F_d (Or.inl nav)
        have E99_a := Exa.wr W98 E_a
        have A99_kl := own_Ar.other A_l W98 (Ne.symm nvl)
        have A99_kd := own_Ar.other A_d W98 (Ne.symm nvd)
        have O99 := Old.wr O0 W98 gv
        have N98 := Fr.snoc X98 N0 gv
        have K98 := Keep.wr (Keep.refl h0 [a, kv, kl, kd]) W98 (Or.inl (List.mem_of_getElem? (i := 1) rfl))
        have A98n : own_Ar Z h98 kv .int 64 (fun j => Value.int ((own_up V (own_ix 64 x1) x1) j)) := own_Ar.fn A98 (by intro j _; simp only [own_set, own_up]; split <;> rfl)
        refine own_st st98 ?_
        show own_G p e below s _ _ _ (T98.setTop (mkF m 78 #[.val (Value.ref a), .val (Value.int x1), .val Value.null, .val (Value.int x3), .val (Value.int (own_dn 64 V D x1 x3)), .val (Value.int (x1 &&& ((64 : Int32) - (1 : Int32))))] []))
        refine own_aloadN X98 hx hby own_d9_78 rfl rfl ?_
        show own_G p e below s _ _ _ (T98.setTop (mkF m 79 #[.val (Value.ref a), .val (Value.int x1), .val Value.null, .val (Value.int x3), .val (Value.int (own_dn 64 V D x1 x3)), .val (Value.int (x1 &&& ((64 : Int32) - (1 : Int32))))] [(Value.ref a)]))
        obtain ⟨T100, X100, e100, st100⟩ := getF X98 hx hZ hown (host := "") (Or.inl (own_w37 hw)) Via.refl e98 F99_a_lists (g := (mkF m 79 #[.val (Value.ref a), .val (Value.int x1), .val Value.null, .val (Value.int x3), .val (Value.int (own_dn 64 V D x1 x3)), .val (Value.int (x1 &&& ((64 : Int32) - (1 : Int32))))] [(Value.ref a)])) rfl rfl (hb hby own_d9_79)
        refine own_st st100 ?_
        show own_G p e below s _ _ _ (T100.setTop (mkF m 82 #[.val (Value.ref a), .val (Value.int x1), .val Value.null, .val (Value.int x3), .val (Value.int (own_dn 64 V D x1 x3)), .val (Value.int (x1 &&& ((64 : Int32) - (1 : Int32))))] [(Value.ref kl)]))
        refine own_iload X100 hx hby own_d9_82 rfl ?_
        show own_G p e below s _ _ _ (T100.setTop (mkF m 84 #[.val (Value.ref a), .val (Value.int x1), .val Value.null, .val (Value.int x3), .val (Value.int (own_dn 64 V D x1 x3)), .val (Value.int (x1 &&& ((64 : Int32) - (1 : Int32))))] [(Value.int (x1 &&& ((64 : Int32) - (1 : Int32)))), (Value.ref kl)]))
        refine own_aloadN X100 hx hby own_d9_84 rfl rfl ?_
        show own_G p e below s _ _ _ (T100.setTop (mkF m 85 #[.val (Value.ref a), .val (Value.int x1), .val Value.null, .val (Value.int x3), .val (Value.int (own_dn 64 V D x1 x3)), .val (Value.int (x1 &&& ((64 : Int32) - (1 : Int32))))] [Value.null, (Value.int (x1 &&& ((64 : Int32) - (1 : Int32)))), (Value.ref kl)]))
        obtain ⟨T101, h101, X101, e101, W101, A101, st101⟩ := own_aastore X100 hx hby hZ e100 A99_kl rfl (j := (x1 &&& ((64 : Int32) - (1 : Int32)))) (i := (own_ix 64 x1)) (own_and_ix (n := 64) hpw x1).1 (own_and_ix (n := 64) hpw x1).2 (Or.inl rfl) own_d9_85 (Ls := #[.val (Value.ref a), .val (Value.int x1), .val Value.null, .val (Value.int x3), .val (Value.int (own_dn 64 V D x1 x3)), .val (Value.int (x1 &&& ((64 : Int32) - (1 : Int32))))]) (st := [])
        have F102_a_limit := Fld.other W101 F99_a_limit (Or.inl nal)
        have F102_a_vertices := Fld.other W101 F99_a_vertices (Or.inl nal)
        have F102_a_lists := Fld.other W101 F99_a_lists (Or.inl nal)
        have F102_a_depths := Fld.other W101 F99_a_depths (Or.inl nal)
        have E102_a := Exa.wr W101 E99_a
        have A102_kv := own_Ar.other A98n W101 nvl
        have A102_kd := own_Ar.other A99_kd W101 (Ne.symm nld)
        have O102 := Old.wr O99 W101 gl
        have N101 := Fr.snoc X101 N98 gl
        have K101 := Keep.wr K98 W101 (Or.inl (List.mem_of_getElem? (i := 2) rfl))
        have A101n : own_Ar Z h101 kl (.array .int) 64 (fun _ => Value.null) := own_Ar.fn A101 (by intro j _; simp only [own_set]; split <;> rfl)
        refine own_st st101 ?_
        show own_G p e below s _ _ _ (T101.setTop (mkF m 86 #[.val (Value.ref a), .val (Value.int x1), .val Value.null, .val (Value.int x3), .val (Value.int (own_dn 64 V D x1 x3)), .val (Value.int (x1 &&& ((64 : Int32) - (1 : Int32))))] []))
        refine own_aloadN X101 hx hby own_d9_86 rfl rfl ?_
        show own_G p e below s _ _ _ (T101.setTop (mkF m 87 #[.val (Value.ref a), .val (Value.int x1), .val Value.null, .val (Value.int x3), .val (Value.int (own_dn 64 V D x1 x3)), .val (Value.int (x1 &&& ((64 : Int32) - (1 : Int32))))] [(Value.ref a)]))
        obtain ⟨T103, X103, e103, st103⟩ := getF X101 hx hZ hown (host := "") (Or.inl (own_w39 hw)) Via.refl e101 F102_a_depths (g := (mkF m 87 #[.val (Value.ref a), .val (Value.int x1), .val Value.null, .val (Value.int x3), .val (Value.int (own_dn 64 V D x1 x3)), .val (Value.int (x1 &&& ((64 : Int32) - (1 : Int32))))] [(Value.ref a)])) rfl rfl (hb hby own_d9_87)
        refine own_st st103 ?_
        show own_G p e below s _ _ _ (T103.setTop (mkF m 90 #[.val (Value.ref a), .val (Value.int x1), .val Value.null, .val (Value.int x3), .val (Value.int (own_dn 64 V D x1 x3)), .val (Value.int (x1 &&& ((64 : Int32) - (1 : Int32))))] [(Value.ref kd)]))
        refine own_iload X103 hx hby own_d9_90 rfl ?_
        show own_G p e below s _ _ _ (T103.setTop (mkF m 92 #[.val (Value.ref a), .val (Value.int x1), .val Value.null, .val (Value.int x3), .val (Value.int (own_dn 64 V D x1 x3)), .val (Value.int (x1 &&& ((64 : Int32) - (1 : Int32))))] [(Value.int (x1 &&& ((64 : Int32) - (1 : Int32)))), (Value.ref kd)]))
        refine own_iload X103 hx hby own_d9_92 rfl ?_
        show own_G p e below s _ _ _ (T103.setTop (mkF m 94 #[.val (Value.ref a), .val (Value.int x1), .val Value.null, .val (Value.int x3), .val (Value.int (own_dn 64 V D x1 x3)), .val (Value.int (x1 &&& ((64 : Int32) - (1 : Int32))))] [(Value.int (own_dn 64 V D x1 x3)), (Value.int (x1 &&& ((64 : Int32) - (1 : Int32)))), (Value.ref kd)]))
        obtain ⟨T104, h104, X104, e104, W104, A104, st104⟩ := own_iastore X103 hx hby hZ e103 A102_kd (j := (x1 &&& ((64 : Int32) - (1 : Int32)))) (i := (own_ix 64 x1)) (own_and_ix (n := 64) hpw x1).1 (own_and_ix (n := 64) hpw x1).2 (x := (own_dn 64 V D x1 x3)) own_d9_94 (Ls := #[.val (Value.ref a), .val (Value.int x1), .val Value.null, .val (Value.int x3), .val (Value.int (own_dn 64 V D x1 x3)), .val (Value.int (x1 &&& ((64 : Int32) - (1 : Int32))))]) (st := [])
        have F105_a_limit := Fld.other W104 F102_a_limit (Or.inl nad)
        have F105_a_vertices := Fld.other W104 F102_a_vertices (Or.inl nad)
        have F105_a_lists := Fld.other W104 F102_a_lists (Or.inl nad)
        have F105_a_depths := Fld.other W104 F102_a_depths (Or.inl nad)
        have E105_a := Exa.wr W104 E102_a
        have A105_kv := own_Ar.other A102_kv W104 nvd
        have A105_kl := own_Ar.other A101n W104 nld
        have O105 := Old.wr O102 W104 gd
        have N104 := Fr.snoc X104 N101 gd
        have K104 := Keep.wr K101 W104 (Or.inl (List.mem_of_getElem? (i := 3) rfl))
        have A104n : own_Ar Z h104 kd .int 64 (fun j => Value.int ((own_up D (own_ix 64 x1) (own_dn 64 V D x1 x3)) j)) := own_Ar.fn A104 (by intro j _; simp only [own_set, own_up]; split <;> rfl)
        refine own_st st104 ?_
        show own_G p e below s _ _ _ (T104.setTop (mkF m 95 #[.val (Value.ref a), .val (Value.int x1), .val Value.null, .val (Value.int x3), .val (Value.int (own_dn 64 V D x1 x3)), .val (Value.int (x1 &&& ((64 : Int32) - (1 : Int32))))] []))
        refine own_ret0 X104 hx hby hlk Bd.returns own_d9_95 (by decide) (by decide) ?_
        show own_rmKG_Q Z a x1 x3 lim kv kl kd 64 V D h0 n0 _ T104.heap _
        rw [e104]
        exact ⟨rfl, N104, K104, kv, kl, kd, _, _, _, hpw, (Or.inr ⟨rfl, hl⟩), own_put (by decide) hI hv0 (Or.inr (by have q := hb96; rw [Int32.lt_iff_toInt_lt] at q; exact q)), E105_a, F105_a_limit, F105_a_vertices, F105_a_lists, F105_a_depths, A105_kv, A105_kl, A104n, gv, gl, gd, nav, nal, nad, nvl, nvd, nld⟩
      · show own_G p e below s _ _ _ (T95.setTop (mkF m 40 #[.val (Value.ref a), .val (Value.int x1), .val Value.null, .val (Value.int x3), .val (Value.int (own_dn 64 V D x1 x3)), .val (Value.int (x1 &&& ((64 : Int32) - (1 : Int32))))] []))
        refine own_aloadN X95 hx hby own_d9_40 rfl rfl ?_
        show own_G p e below s _ _ _ (T95.setTop (mkF m 41 #[.val (Value.ref a), .val (Value.int x1), .val Value.null, .val (Value.int x3), .val (Value.int (own_dn 64 V D x1 x3)), .val (Value.int (x1 &&& ((64 : Int32) - (1 : Int32))))] [(Value.ref a)]))
        obtain ⟨T106, X106, e106, st106⟩ := getF X95 hx hZ hown (host := "") (Or.inl (own_w33 hw)) Via.refl e95 F_v (g := (mkF m 41 #[.val (Value.ref a), .val (Value.int x1), .val Value.null, .val (Value.int x3), .val (Value.int (own_dn 64 V D x1 x3)), .val (Value.int (x1 &&& ((64 : Int32) - (1 : Int32))))] [(Value.ref a)])) rfl rfl (hb hby own_d9_41)
        refine own_st st106 ?_
        show own_G p e below s _ _ _ (T106.setTop (mkF m 44 #[.val (Value.ref a), .val (Value.int x1), .val Value.null, .val (Value.int x3), .val (Value.int (own_dn 64 V D x1 x3)), .val (Value.int (x1 &&& ((64 : Int32) - (1 : Int32))))] [(Value.ref kv)]))
        refine own_alen X106 hx hby hZ e106 A_v own_d9_44 ?_
        show own_G p e below s _ _ _ (T106.setTop (mkF m 45 #[.val (Value.ref a), .val (Value.int x1), .val Value.null, .val (Value.int x3), .val (Value.int (own_dn 64 V D x1 x3)), .val (Value.int (x1 &&& ((64 : Int32) - (1 : Int32))))] [(Value.int (64 : Int32))]))
        refine own_aloadN X106 hx hby own_d9_45 rfl rfl ?_
        show own_G p e below s _ _ _ (T106.setTop (mkF m 46 #[.val (Value.ref a), .val (Value.int x1), .val Value.null, .val (Value.int x3), .val (Value.int (own_dn 64 V D x1 x3)), .val (Value.int (x1 &&& ((64 : Int32) - (1 : Int32))))] [(Value.ref a), (Value.int (64 : Int32))]))
        obtain ⟨T107, X107, e107, st107⟩ := getF X106 hx hZ hown (host := "") (Or.inl (own_w27 hw)) Via.refl e106 F_lim (g := (mkF m 46 #[.val (Value.ref a), .val (Value.int x1), .val Value.null, .val (Value.int x3), .val (Value.int (own_dn 64 V D x1 x3)), .val (Value.int (x1 &&& ((64 : Int32) - (1 : Int32))))] [(Value.ref a), (Value.int (64 : Int32))])) rfl rfl (hb hby own_d9_46)
        refine own_st st107 ?_
        show own_G p e below s _ _ _ (T107.setTop (mkF m 49 #[.val (Value.ref a), .val (Value.int x1), .val Value.null, .val (Value.int x3), .val (Value.int (own_dn 64 V D x1 x3)), .val (Value.int (x1 &&& ((64 : Int32) - (1 : Int32))))] [(Value.int lim), (Value.int (64 : Int32))]))
        refine own_icmp_ge X107 hx hby own_d9_49 (pc' := 70) (by decide) (by decide) (fun hb108 => by exfalso; apply hb108; rw [Int32.lt_iff_toInt_lt]; simp only [Int32.reduceToInt]; omega) (fun hb108 => ?_)
        show own_G p e below s _ _ _ (T107.setTop (mkF m 52 #[.val (Value.ref a), .val (Value.int x1), .val Value.null, .val (Value.int x3), .val (Value.int (own_dn 64 V D x1 x3)), .val (Value.int (x1 &&& ((64 : Int32) - (1 : Int32))))] []))
        refine own_aloadN X107 hx hby own_d9_52 rfl rfl ?_
        show own_G p e below s _ _ _ (T107.setTop (mkF m 53 #[.val (Value.ref a), .val (Value.int x1), .val Value.null, .val (Value.int x3), .val (Value.int (own_dn 64 V D x1 x3)), .val (Value.int (x1 &&& ((64 : Int32) - (1 : Int32))))] [(Value.ref a)]))
        obtain ⟨cq109, q109, q109'⟩ := E_a.cell
        obtain ⟨_, _, ⟨T109, L109, k109, n109⟩, -, X109, ⟨Lc109, hQ109, l109, y109, z109⟩, st109⟩ := X107.privateBack hx (y := (⟨"com/example/tuck/tuck/ListWindow", "grow", "()V"⟩ : MethodName)) hown (mvT hZ (own_w62 hw)) (mvT hZ (own_w63 hw)) (own_privsel hZ (own_w3 hw) (own_w64 hw) (own_w63 hw) (by decide)) (Cond.privateMethod_at (mvP hZ (own_w64 hw) (args := #[]))) (mvT hZ (own_w65 hw)) (by decide) (backOf (W := 0) (own_rmG l Z a0 hw [] a lim kv kl kd V D h0 n0 O0 E_a F_lim F_v F_l F_d A_v A_l A_d ga gv gl gd nav nal nad nvl nvd nld) hZ (own_w65 hw) (own_w4 hw) (by decide) (by decide)) (g := (mkF m 53 #[.val (Value.ref a), .val (Value.int x1), .val Value.null, .val (Value.int x3), .val (Value.int (own_dn 64 V D x1 x3)), .val (Value.int (x1 &&& ((64 : Int32) - (1 : Int32))))] [(Value.ref a)])) rfl (by rw [hml]; rfl) (Steps.refl _) (a := a) (by rw [e107]; exact q109) q109' (argsL := []) (rest := []) (lenOf own_pd4 rfl) rfl (by show 2 * 0 + _ ≤ _; exact Nat.le_of_eq rfl) (hb hby own_d9_53) (fun _ _ => ⟨rfl, e107, (by decide : (0 : Nat) + 3 ≤ _), (by decide : (0 : Nat) + 384 ≤ _)⟩)
        dsimp only [Pt.U, Pt.locs, Pt.cells, Pt.slots] at X109 l109 y109 z109 st109 hQ109
        subst l109 y109 z109
        obtain ⟨rfl, Nq109, Kq109, kv109, kl109, kd109, zv109, zl109, zd109, Eq109, Fl109, Fv109, Fs109, Fd109, Av109, Al109, Ad109, gv109, gl109, gd109, n1109, n2109, n3109, n4109, n5109, n6109⟩ := hQ109
        have N109 := Fr.app N0 Nq109
        have E110_a := Exa.keep E_a Kq109
        have O110 := Old.keep O0 Kq109 (allS ga all0)
        have qzv109 : h0.size ≤ kv109 := Nat.le_trans ((Keep.refl h0 [a, kv, kl, kd])).1 zv109
        have qzl109 : h0.size ≤ kl109 := Nat.le_trans ((Keep.refl h0 [a, kv, kl, kd])).1 zl109
        have qzd109 : h0.size ≤ kd109 := Nat.le_trans ((Keep.refl h0 [a, kv, kl, kd])).1 zd109
        have K109 := Keep.trans (Keep.refl h0 [a, kv, kl, kd]) Kq109 (allS (Or.inl (List.mem_of_getElem? (i := 0) rfl)) all0)
        refine own_tr st109 ?_
        show own_G p e below s _ _ _ (T109.setTop (mkF m 56 #[.val (Value.ref a), .val (Value.int x1), .val Value.null, .val (Value.int x3), .val (Value.int (own_dn 64 V D x1 x3)), .val (Value.int (x1 &&& ((64 : Int32) - (1 : Int32))))] []))
        refine own_iloadN X109 hx hby own_d9_56 rfl ?_
        show own_G p e below s _ _ _ (T109.setTop (mkF m 57 #[.val (Value.ref a), .val (Value.int x1), .val Value.null, .val (Value.int x3), .val (Value.int (own_dn 64 V D x1 x3)), .val (Value.int (x1 &&& ((64 : Int32) - (1 : Int32))))] [(Value.int x1)]))
        refine own_aloadN X109 hx hby own_d9_57 rfl rfl ?_
        show own_G p e below s _ _ _ (T109.setTop (mkF m 58 #[.val (Value.ref a), .val (Value.int x1), .val Value.null, .val (Value.int x3), .val (Value.int (own_dn 64 V D x1 x3)), .val (Value.int (x1 &&& ((64 : Int32) - (1 : Int32))))] [(Value.ref a), (Value.int x1)]))
        obtain ⟨T111, X111, e111, st111⟩ := getF X109 hx hZ hown (host := "") (Or.inl (own_w33 hw)) Via.refl rfl Fv109 (g := (mkF m 58 #[.val (Value.ref a), .val (Value.int x1), .val Value.null, .val (Value.int x3), .val (Value.int (own_dn 64 V D x1 x3)), .val (Value.int (x1 &&& ((64 : Int32) - (1 : Int32))))] [(Value.ref a), (Value.int x1)])) rfl rfl (hb hby own_d9_58)
        refine own_st st111 ?_
        show own_G p e below s _ _ _ (T111.setTop (mkF m 61 #[.val (Value.ref a), .val (Value.int x1), .val Value.null, .val (Value.int x3), .val (Value.int (own_dn 64 V D x1 x3)), .val (Value.int (x1 &&& ((64 : Int32) - (1 : Int32))))] [(Value.ref kv109), (Value.int x1)]))
        refine own_alen X111 hx hby hZ e111 Av109 own_d9_61 ?_
        show own_G p e below s _ _ _ (T111.setTop (mkF m 62 #[.val (Value.ref a), .val (Value.int x1), .val Value.null, .val (Value.int x3), .val (Value.int (own_dn 64 V D x1 x3)), .val (Value.int (x1 &&& ((64 : Int32) - (1 : Int32))))] [(Value.int (128 : Int32)), (Value.int x1)]))
        refine own_iconst X111 hx hby own_d9_62 ?_
        show own_G p e below s _ _ _ (T111.setTop (mkF m 63 #[.val (Value.ref a), .val (Value.int x1), .val Value.null, .val (Value.int x3), .val (Value.int (own_dn 64 V D x1 x3)), .val (Value.int (x1 &&& ((64 : Int32) - (1 : Int32))))] [(Value.int (1 : Int32)), (Value.int (128 : Int32)), (Value.int x1)]))
        refine own_isub X111 hx hby own_d9_63 ?_
        show own_G p e below s _ _ _ (T111.setTop (mkF m 64 #[.val (Value.ref a), .val (Value.int x1), .val Value.null, .val (Value.int x3), .val (Value.int (own_dn 64 V D x1 x3)), .val (Value.int (x1 &&& ((64 : Int32) - (1 : Int32))))] [(Value.int ((128 : Int32) - (1 : Int32))), (Value.int x1)]))
        refine own_iand X111 hx hby own_d9_64 ?_
        show own_G p e below s _ _ _ (T111.setTop (mkF m 65 #[.val (Value.ref a), .val (Value.int x1), .val Value.null, .val (Value.int x3), .val (Value.int (own_dn 64 V D x1 x3)), .val (Value.int (x1 &&& ((64 : Int32) - (1 : Int32))))] [(Value.int (x1 &&& ((128 : Int32) - (1 : Int32))))]))
        refine own_istore X111 hx hby own_d9_65 (l' := #[.val (Value.ref a), .val (Value.int x1), .val Value.null, .val (Value.int x3), .val (Value.int (own_dn 64 V D x1 x3)), .val (Value.int (x1 &&& ((128 : Int32) - (1 : Int32))))]) rfl ?_
        show own_G p e below s _ _ _ (T111.setTop (mkF m 67 #[.val (Value.ref a), .val (Value.int x1), .val Value.null, .val (Value.int x3), .val (Value.int (own_dn 64 V D x1 x3)), .val (Value.int (x1 &&& ((128 : Int32) - (1 : Int32))))] []))
        refine own_goto X111 hx hby own_d9_67 (pc' := 30) (by decide) (by decide) ?_
        show own_G p e below s _ _ _ (T111.setTop (mkF m 30 #[.val (Value.ref a), .val (Value.int x1), .val Value.null, .val (Value.int x3), .val (Value.int (own_dn 64 V D x1 x3)), .val (Value.int (x1 &&& ((128 : Int32) - (1 : Int32))))] []))
        refine own_aloadN X111 hx hby own_d9_30 rfl rfl ?_
        show own_G p e below s _ _ _ (T111.setTop (mkF m 31 #[.val (Value.ref a), .val (Value.int x1), .val Value.null, .val (Value.int x3), .val (Value.int (own_dn 64 V D x1 x3)), .val (Value.int (x1 &&& ((128 : Int32) - (1 : Int32))))] [(Value.ref a)]))
        obtain ⟨T112, X112, e112, st112⟩ := getF X111 hx hZ hown (host := "") (Or.inl (own_w33 hw)) Via.refl e111 Fv109 (g := (mkF m 31 #[.val (Value.ref a), .val (Value.int x1), .val Value.null, .val (Value.int x3), .val (Value.int (own_dn 64 V D x1 x3)), .val (Value.int (x1 &&& ((128 : Int32) - (1 : Int32))))] [(Value.ref a)])) rfl rfl (hb hby own_d9_31)
        refine own_st st112 ?_
        show own_G p e below s _ _ _ (T112.setTop (mkF m 34 #[.val (Value.ref a), .val (Value.int x1), .val Value.null, .val (Value.int x3), .val (Value.int (own_dn 64 V D x1 x3)), .val (Value.int (x1 &&& ((128 : Int32) - (1 : Int32))))] [(Value.ref kv109)]))
        refine own_iload X112 hx hby own_d9_34 rfl ?_
        show own_G p e below s _ _ _ (T112.setTop (mkF m 36 #[.val (Value.ref a), .val (Value.int x1), .val Value.null, .val (Value.int x3), .val (Value.int (own_dn 64 V D x1 x3)), .val (Value.int (x1 &&& ((128 : Int32) - (1 : Int32))))] [(Value.int (x1 &&& ((128 : Int32) - (1 : Int32)))), (Value.ref kv109)]))
        refine own_iaload X112 hx hby hZ e112 Av109 (j := (x1 &&& ((128 : Int32) - (1 : Int32)))) (i := (own_ix 128 x1)) (own_and_ix (n := 128) (by unfold own_pw; omega) x1).1 (own_and_ix (n := 128) (by unfold own_pw; omega) x1).2 own_d9_36 ?_
        show own_G p e below s _ _ _ (T112.setTop (mkF m 37 #[.val (Value.ref a), .val (Value.int x1), .val Value.null, .val (Value.int x3), .val (Value.int (own_dn 64 V D x1 x3)), .val (Value.int (x1 &&& ((128 : Int32) - (1 : Int32))))] [(Value.int ((own_gv V 64) (own_ix 128 x1)))]))
        refine own_if_lt X112 hx hby own_d9_37 (pc' := 70) (by decide) (by decide) (fun hb113 => ?_) (fun hb113 => ?_)
        · show own_G p e below s _ _ _ (T112.setTop (mkF m 70 #[.val (Value.ref a), .val (Value.int x1), .val Value.null, .val (Value.int x3), .val (Value.int (own_dn 64 V D x1 x3)), .val (Value.int (x1 &&& ((128 : Int32) - (1 : Int32))))] []))
          refine own_aloadN X112 hx hby own_d9_70 rfl rfl ?_
          show own_G p e below s _ _ _ (T112.setTop (mkF m 71 #[.val (Value.ref a), .val (Value.int x1), .val Value.null, .val (Value.int x3), .val (Value.int (own_dn 64 V D x1 x3)), .val (Value.int (x1 &&& ((128 : Int32) - (1 : Int32))))] [(Value.ref a)]))
          obtain ⟨T114, X114, e114, st114⟩ := getF X112 hx hZ hown (host := "") (Or.inl (own_w33 hw)) Via.refl e112 Fv109 (g := (mkF m 71 #[.val (Value.ref a), .val (Value.int x1), .val Value.null, .val (Value.int x3), .val (Value.int (own_dn 64 V D x1 x3)), .val (Value.int (x1 &&& ((128 : Int32) - (1 : Int32))))] [(Value.ref a)])) rfl rfl (hb hby own_d9_71)
          refine own_st st114 ?_
          show own_G p e below s _ _ _ (T114.setTop (mkF m 74 #[.val (Value.ref a), .val (Value.int x1), .val Value.null, .val (Value.int x3), .val (Value.int (own_dn 64 V D x1 x3)), .val (Value.int (x1 &&& ((128 : Int32) - (1 : Int32))))] [(Value.ref kv109)]))
          refine own_iload X114 hx hby own_d9_74 rfl ?_
          show own_G p e below s _ _ _ (T114.setTop (mkF m 76 #[.val (Value.ref a), .val (Value.int x1), .val Value.null, .val (Value.int x3), .val (Value.int (own_dn 64 V D x1 x3)), .val (Value.int (x1 &&& ((128 : Int32) - (1 : Int32))))] [(Value.int (x1 &&& ((128 : Int32) - (1 : Int32)))), (Value.ref kv109)]))
          refine own_iloadN X114 hx hby own_d9_76 rfl ?_
          show own_G p e below s _ _ _ (T114.setTop (mkF m 77 #[.val (Value.ref a), .val (Value.int x1), .val Value.null, .val (Value.int x3), .val (Value.int (own_dn 64 V D x1 x3)), .val (Value.int (x1 &&& ((128 : Int32) - (1 : Int32))))] [(Value.int x1), (Value.int (x1 &&& ((128 : Int32) - (1 : Int32)))), (Value.ref kv109)]))
          obtain ⟨T115, h115, X115, e115, W115, A115, st115⟩ := own_iastore X114 hx hby hZ e114 Av109 (j := (x1 &&& ((128 : Int32) - (1 : Int32)))) (i := (own_ix 128 x1)) (own_and_ix (n := 128) (by unfold own_pw; omega) x1).1 (own_and_ix (n := 128) (by unfold own_pw; omega) x1).2 (x := x1) own_d9_77 (Ls := #[.val (Value.ref a), .val (Value.int x1), .val Value.null, .val (Value.int x3), .val (Value.int (own_dn 64 V D x1 x3)), .val (Value.int (x1 &&& ((128 : Int32) - (1 : Int32))))]) (st := [])
          have F116_a_limit := Fld.other W115 Fl109 (Or.inl n1109)
          have F116_a_vertices := Fld.other W115 Fv109 (Or.inl n1109)
          have F116_a_lists := Fld.other W115 Fs109 (Or.inl n1109)
          have F116_a_depths := Fld.other W115 Fd109 (Or.inl n1109)
          have E116_a := Exa.wr W115 Eq109
          have A116_kl109 := own_Ar.other Al109 W115 (Ne.symm n4109)
          have A116_kd109 := own_Ar.other Ad109 W115 (Ne.symm n5109)
          have O116 := Old.wr O110 W115 gv109
          have N115 := Fr.snoc X115 N109 gv109
          have K115 := Keep.wr K109 W115 (Or.inr qzv109)
          have A115n : own_Ar Z h115 kv109 .int 128 (fun j => Value.int ((own_up (own_gv V 64) (own_ix 128 x1) x1) j)) := own_Ar.fn A115 (by intro j _; simp only [own_set, own_up]; split <;> rfl)
          refine own_st st115 ?_
          show own_G p e below s _ _ _ (T115.setTop (mkF m 78 #[.val (Value.ref a), .val (Value.int x1), .val Value.null, .val (Value.int x3), .val (Value.int (own_dn 64 V D x1 x3)), .val (Value.int (x1 &&& ((128 : Int32) - (1 : Int32))))] []))
          refine own_aloadN X115 hx hby own_d9_78 rfl rfl ?_
          show own_G p e below s _ _ _ (T115.setTop (mkF m 79 #[.val (Value.ref a), .val (Value.int x1), .val Value.null, .val (Value.int x3), .val (Value.int (own_dn 64 V D x1 x3)), .val (Value.int (x1 &&& ((128 : Int32) - (1 : Int32))))] [(Value.ref a)]))
          obtain ⟨T117, X117, e117, st117⟩ := getF X115 hx hZ hown (host := "") (Or.inl (own_w37 hw)) Via.refl e115 F116_a_lists (g := (mkF m 79 #[.val (Value.ref a), .val (Value.int x1), .val Value.null, .val (Value.int x3), .val (Value.int (own_dn 64 V D x1 x3)), .val (Value.int (x1 &&& ((128 : Int32) - (1 : Int32))))] [(Value.ref a)])) rfl rfl (hb hby own_d9_79)
          refine own_st st117 ?_
          show own_G p e below s _ _ _ (T117.setTop (mkF m 82 #[.val (Value.ref a), .val (Value.int x1), .val Value.null, .val (Value.int x3), .val (Value.int (own_dn 64 V D x1 x3)), .val (Value.int (x1 &&& ((128 : Int32) - (1 : Int32))))] [(Value.ref kl109)]))
          refine own_iload X117 hx hby own_d9_82 rfl ?_
          show own_G p e below s _ _ _ (T117.setTop (mkF m 84 #[.val (Value.ref a), .val (Value.int x1), .val Value.null, .val (Value.int x3), .val (Value.int (own_dn 64 V D x1 x3)), .val (Value.int (x1 &&& ((128 : Int32) - (1 : Int32))))] [(Value.int (x1 &&& ((128 : Int32) - (1 : Int32)))), (Value.ref kl109)]))
          refine own_aloadN X117 hx hby own_d9_84 rfl rfl ?_
          show own_G p e below s _ _ _ (T117.setTop (mkF m 85 #[.val (Value.ref a), .val (Value.int x1), .val Value.null, .val (Value.int x3), .val (Value.int (own_dn 64 V D x1 x3)), .val (Value.int (x1 &&& ((128 : Int32) - (1 : Int32))))] [Value.null, (Value.int (x1 &&& ((128 : Int32) - (1 : Int32)))), (Value.ref kl109)]))
          obtain ⟨T118, h118, X118, e118, W118, A118, st118⟩ := own_aastore X117 hx hby hZ e117 A116_kl109 rfl (j := (x1 &&& ((128 : Int32) - (1 : Int32)))) (i := (own_ix 128 x1)) (own_and_ix (n := 128) (by unfold own_pw; omega) x1).1 (own_and_ix (n := 128) (by unfold own_pw; omega) x1).2 (Or.inl rfl) own_d9_85 (Ls := #[.val (Value.ref a), .val (Value.int x1), .val Value.null, .val (Value.int x3), .val (Value.int (own_dn 64 V D x1 x3)), .val (Value.int (x1 &&& ((128 : Int32) - (1 : Int32))))]) (st := [])
          have F119_a_limit := Fld.other W118 F116_a_limit (Or.inl n2109)
          have F119_a_vertices := Fld.other W118 F116_a_vertices (Or.inl n2109)
          have F119_a_lists := Fld.other W118 F116_a_lists (Or.inl n2109)
          have F119_a_depths := Fld.other W118 F116_a_depths (Or.inl n2109)
          have E119_a := Exa.wr W118 E116_a
          have A119_kv109 := own_Ar.other A115n W118 n4109
          have A119_kd109 := own_Ar.other A116_kd109 W118 (Ne.symm n6109)
          have O119 := Old.wr O116 W118 gl109
          have N118 := Fr.snoc X118 N115 gl109
          have K118 := Keep.wr K115 W118 (Or.inr qzl109)
          have A118n : own_Ar Z h118 kl109 (.array .int) 128 (fun _ => Value.null) := own_Ar.fn A118 (by intro j _; simp only [own_set]; split <;> rfl)
          refine own_st st118 ?_
          show own_G p e below s _ _ _ (T118.setTop (mkF m 86 #[.val (Value.ref a), .val (Value.int x1), .val Value.null, .val (Value.int x3), .val (Value.int (own_dn 64 V D x1 x3)), .val (Value.int (x1 &&& ((128 : Int32) - (1 : Int32))))] []))
          refine own_aloadN X118 hx hby own_d9_86 rfl rfl ?_
          show own_G p e below s _ _ _ (T118.setTop (mkF m 87 #[.val (Value.ref a), .val (Value.int x1), .val Value.null, .val (Value.int x3), .val (Value.int (own_dn 64 V D x1 x3)), .val (Value.int (x1 &&& ((128 : Int32) - (1 : Int32))))] [(Value.ref a)]))
          obtain ⟨T120, X120, e120, st120⟩ := getF X118 hx hZ hown (host := "") (Or.inl (own_w39 hw)) Via.refl e118 F119_a_depths (g := (mkF m 87 #[.val (Value.ref a), .val (Value.int x1), .val Value.null, .val (Value.int x3), .val (Value.int (own_dn 64 V D x1 x3)), .val (Value.int (x1 &&& ((128 : Int32) - (1 : Int32))))] [(Value.ref a)])) rfl rfl (hb hby own_d9_87)
          refine own_st st120 ?_
          show own_G p e below s _ _ _ (T120.setTop (mkF m 90 #[.val (Value.ref a), .val (Value.int x1), .val Value.null, .val (Value.int x3), .val (Value.int (own_dn 64 V D x1 x3)), .val (Value.int (x1 &&& ((128 : Int32) - (1 : Int32))))] [(Value.ref kd109)]))
          refine own_iload X120 hx hby own_d9_90 rfl ?_
          show own_G p e below s _ _ _ (T120.setTop (mkF m 92 #[.val (Value.ref a), .val (Value.int x1), .val Value.null, .val (Value.int x3), .val (Value.int (own_dn 64 V D x1 x3)), .val (Value.int (x1 &&& ((128 : Int32) - (1 : Int32))))] [(Value.int (x1 &&& ((128 : Int32) - (1 : Int32)))), (Value.ref kd109)]))
          refine own_iload X120 hx hby own_d9_92 rfl ?_
          show own_G p e below s _ _ _ (T120.setTop (mkF m 94 #[.val (Value.ref a), .val (Value.int x1), .val Value.null, .val (Value.int x3), .val (Value.int (own_dn 64 V D x1 x3)), .val (Value.int (x1 &&& ((128 : Int32) - (1 : Int32))))] [(Value.int (own_dn 64 V D x1 x3)), (Value.int (x1 &&& ((128 : Int32) - (1 : Int32)))), (Value.ref kd109)]))
          obtain ⟨T121, h121, X121, e121, W121, A121, st121⟩ := own_iastore X120 hx hby hZ e120 A119_kd109 (j := (x1 &&& ((128 : Int32) - (1 : Int32)))) (i := (own_ix 128 x1)) (own_and_ix (n := 128) (by unfold own_pw; omega) x1).1 (own_and_ix (n := 128) (by unfold own_pw; omega) x1).2 (x := (own_dn 64 V D x1 x3)) own_d9_94 (Ls := #[.val (Value.ref a), .val (Value.int x1), .val Value.null, .val (Value.int x3), .val (Value.int (own_dn 64 V D x1 x3)), .val (Value.int (x1 &&& ((128 : Int32) - (1 : Int32))))]) (st := [])
          have F122_a_limit := Fld.other W121 F119_a_limit (Or.inl n3109)
          have F122_a_vertices := Fld.other W121 F119_a_vertices (Or.inl n3109)
          have F122_a_lists := Fld.other W121 F119_a_lists (Or.inl n3109)
          have F122_a_depths := Fld.other W121 F119_a_depths (Or.inl n3109)
          have E122_a := Exa.wr W121 E119_a
          have A122_kv109 := own_Ar.other A119_kv109 W121 n5109
          have A122_kl109 := own_Ar.other A118n W121 n6109
          have O122 := Old.wr O119 W121 gd109
          have N121 := Fr.snoc X121 N118 gd109
          have K121 := Keep.wr K118 W121 (Or.inr qzd109)
          have A121n : own_Ar Z h121 kd109 .int 128 (fun j => Value.int ((own_up (own_gd V D 64) (own_ix 128 x1) (own_dn 64 V D x1 x3)) j)) := own_Ar.fn A121 (by intro j _; simp only [own_set, own_up]; split <;> rfl)
          refine own_st st121 ?_
          show own_G p e below s _ _ _ (T121.setTop (mkF m 95 #[.val (Value.ref a), .val (Value.int x1), .val Value.null, .val (Value.int x3), .val (Value.int (own_dn 64 V D x1 x3)), .val (Value.int (x1 &&& ((128 : Int32) - (1 : Int32))))] []))
          refine own_ret0 X121 hx hby hlk Bd.returns own_d9_95 (by decide) (by decide) ?_
          show own_rmKG_Q Z a x1 x3 lim kv kl kd 64 V D h0 n0 _ T121.heap _
          rw [e121]
          exact ⟨rfl, N121, K121, kv109, kl109, kd109, _, _, _, (by unfold own_pw; omega), (Or.inl hl), own_put2 hI hv0 hl, E122_a, F122_a_limit, F122_a_vertices, F122_a_lists, F122_a_depths, A122_kv109, A122_kl109, A121n, gv109, gl109, gd109, n1109, n2109, n3109, n4109, n5109, n6109⟩
        · show own_G p e below s _ _ _ (T112.setTop (mkF m 40 #[.val (Value.ref a), .val (Value.int x1), .val Value.null, .val (Value.int x3), .val (Value.int (own_dn 64 V D x1 x3)), .val (Value.int (x1 &&& ((128 : Int32) - (1 : Int32))))] []))
          refine own_aloadN X112 hx hby own_d9_40 rfl rfl ?_
          show own_G p e below s _ _ _ (T112.setTop (mkF m 41 #[.val (Value.ref a), .val (Value.int x1), .val Value.null, .val (Value.int x3), .val (Value.int (own_dn 64 V D x1 x3)), .val (Value.int (x1 &&& ((128 : Int32) - (1 : Int32))))] [(Value.ref a)]))
          obtain ⟨T123, X123, e123, st123⟩ := getF X112 hx hZ hown (host := "") (Or.inl (own_w33 hw)) Via.refl e112 Fv109 (g := (mkF m 41 #[.val (Value.ref a), .val (Value.int x1), .val Value.null, .val (Value.int x3), .val (Value.int (own_dn 64 V D x1 x3)), .val (Value.int (x1 &&& ((128 : Int32) - (1 : Int32))))] [(Value.ref a)])) rfl rfl (hb hby own_d9_41)
          refine own_st st123 ?_
          show own_G p e below s _ _ _ (T123.setTop (mkF m 44 #[.val (Value.ref a), .val (Value.int x1), .val Value.null, .val (Value.int x3), .val (Value.int (own_dn 64 V D x1 x3)), .val (Value.int (x1 &&& ((128 : Int32) - (1 : Int32))))] [(Value.ref kv109)]))
          refine own_alen X123 hx hby hZ e123 Av109 own_d9_44 ?_
          show own_G p e below s _ _ _ (T123.setTop (mkF m 45 #[.val (Value.ref a), .val (Value.int x1), .val Value.null, .val (Value.int x3), .val (Value.int (own_dn 64 V D x1 x3)), .val (Value.int (x1 &&& ((128 : Int32) - (1 : Int32))))] [(Value.int (128 : Int32))]))
          refine own_aloadN X123 hx hby own_d9_45 rfl rfl ?_
          show own_G p e below s _ _ _ (T123.setTop (mkF m 46 #[.val (Value.ref a), .val (Value.int x1), .val Value.null, .val (Value.int x3), .val (Value.int (own_dn 64 V D x1 x3)), .val (Value.int (x1 &&& ((128 : Int32) - (1 : Int32))))] [(Value.ref a), (Value.int (128 : Int32))]))
          obtain ⟨T124, X124, e124, st124⟩ := getF X123 hx hZ hown (host := "") (Or.inl (own_w27 hw)) Via.refl e123 Fl109 (g := (mkF m 46 #[.val (Value.ref a), .val (Value.int x1), .val Value.null, .val (Value.int x3), .val (Value.int (own_dn 64 V D x1 x3)), .val (Value.int (x1 &&& ((128 : Int32) - (1 : Int32))))] [(Value.ref a), (Value.int (128 : Int32))])) rfl rfl (hb hby own_d9_46)
          refine own_st st124 ?_
          show own_G p e below s _ _ _ (T124.setTop (mkF m 49 #[.val (Value.ref a), .val (Value.int x1), .val Value.null, .val (Value.int x3), .val (Value.int (own_dn 64 V D x1 x3)), .val (Value.int (x1 &&& ((128 : Int32) - (1 : Int32))))] [(Value.int lim), (Value.int (128 : Int32))]))
          refine own_icmp_ge X124 hx hby own_d9_49 (pc' := 70) (by decide) (by decide) (fun hb125 => ?_) (fun hb125 => by exfalso; rw [Int32.lt_iff_toInt_lt] at hb125; simp only [Int32.reduceToInt] at hb125; omega)
          show own_G p e below s _ _ _ (T124.setTop (mkF m 70 #[.val (Value.ref a), .val (Value.int x1), .val Value.null, .val (Value.int x3), .val (Value.int (own_dn 64 V D x1 x3)), .val (Value.int (x1 &&& ((128 : Int32) - (1 : Int32))))] []))
          refine own_aloadN X124 hx hby own_d9_70 rfl rfl ?_
          show own_G p e below s _ _ _ (T124.setTop (mkF m 71 #[.val (Value.ref a), .val (Value.int x1), .val Value.null, .val (Value.int x3), .val (Value.int (own_dn 64 V D x1 x3)), .val (Value.int (x1 &&& ((128 : Int32) - (1 : Int32))))] [(Value.ref a)]))
          obtain ⟨T126, X126, e126, st126⟩ := getF X124 hx hZ hown (host := "") (Or.inl (own_w33 hw)) Via.refl e124 Fv109 (g := (mkF m 71 #[.val (Value.ref a), .val (Value.int x1), .val Value.null, .val (Value.int x3), .val (Value.int (own_dn 64 V D x1 x3)), .val (Value.int (x1 &&& ((128 : Int32) - (1 : Int32))))] [(Value.ref a)])) rfl rfl (hb hby own_d9_71)
          refine own_st st126 ?_
          show own_G p e below s _ _ _ (T126.setTop (mkF m 74 #[.val (Value.ref a), .val (Value.int x1), .val Value.null, .val (Value.int x3), .val (Value.int (own_dn 64 V D x1 x3)), .val (Value.int (x1 &&& ((128 : Int32) - (1 : Int32))))] [(Value.ref kv109)]))
          refine own_iload X126 hx hby own_d9_74 rfl ?_
          show own_G p e below s _ _ _ (T126.setTop (mkF m 76 #[.val (Value.ref a), .val (Value.int x1), .val Value.null, .val (Value.int x3), .val (Value.int (own_dn 64 V D x1 x3)), .val (Value.int (x1 &&& ((128 : Int32) - (1 : Int32))))] [(Value.int (x1 &&& ((128 : Int32) - (1 : Int32)))), (Value.ref kv109)]))
          refine own_iloadN X126 hx hby own_d9_76 rfl ?_
          show own_G p e below s _ _ _ (T126.setTop (mkF m 77 #[.val (Value.ref a), .val (Value.int x1), .val Value.null, .val (Value.int x3), .val (Value.int (own_dn 64 V D x1 x3)), .val (Value.int (x1 &&& ((128 : Int32) - (1 : Int32))))] [(Value.int x1), (Value.int (x1 &&& ((128 : Int32) - (1 : Int32)))), (Value.ref kv109)]))
          obtain ⟨T127, h127, X127, e127, W127, A127, st127⟩ := own_iastore X126 hx hby hZ e126 Av109 (j := (x1 &&& ((128 : Int32) - (1 : Int32)))) (i := (own_ix 128 x1)) (own_and_ix (n := 128) (by unfold own_pw; omega) x1).1 (own_and_ix (n := 128) (by unfold own_pw; omega) x1).2 (x := x1) own_d9_77 (Ls := #[.val (Value.ref a), .val (Value.int x1), .val Value.null, .val (Value.int x3), .val (Value.int (own_dn 64 V D x1 x3)), .val (Value.int (x1 &&& ((128 : Int32) - (1 : Int32))))]) (st := [])
          have F128_a_limit := Fld.other W127 Fl109 (Or.inl n1109)
          have F128_a_vertices := Fld.other W127 Fv109 (Or.inl n1109)
          have F128_a_lists := Fld.other W127 Fs109 (Or.inl n1109)
          have F128_a_depths := Fld.other W127 Fd109 (Or.inl n1109)
          have E128_a := Exa.wr W127 Eq109
          have A128_kl109 := own_Ar.other Al109 W127 (Ne.symm n4109)
          have A128_kd109 := own_Ar.other Ad109 W127 (Ne.symm n5109)
          have O128 := Old.wr O110 W127 gv109
          have N127 := Fr.snoc X127 N109 gv109
          have K127 := Keep.wr K109 W127 (Or.inr qzv109)
          have A127n : own_Ar Z h127 kv109 .int 128 (fun j => Value.int ((own_up (own_gv V 64) (own_ix 128 x1) x1) j)) := own_Ar.fn A127 (by intro j _; simp only [own_set, own_up]; split <;> rfl)
          refine own_st st127 ?_
          show own_G p e below s _ _ _ (T127.setTop (mkF m 78 #[.val (Value.ref a), .val (Value.int x1), .val Value.null, .val (Value.int x3), .val (Value.int (own_dn 64 V D x1 x3)), .val (Value.int (x1 &&& ((128 : Int32) - (1 : Int32))))] []))
          refine own_aloadN X127 hx hby own_d9_78 rfl rfl ?_
          show own_G p e below s _ _ _ (T127.setTop (mkF m 79 #[.val (Value.ref a), .val (Value.int x1), .val Value.null, .val (Value.int x3), .val (Value.int (own_dn 64 V D x1 x3)), .val (Value.int (x1 &&& ((128 : Int32) - (1 : Int32))))] [(Value.ref a)]))
          obtain ⟨T129, X129, e129, st129⟩ := getF X127 hx hZ hown (host := "") (Or.inl (own_w37 hw)) Via.refl e127 F128_a_lists (g := (mkF m 79 #[.val (Value.ref a), .val (Value.int x1), .val Value.null, .val (Value.int x3), .val (Value.int (own_dn 64 V D x1 x3)), .val (Value.int (x1 &&& ((128 : Int32) - (1 : Int32))))] [(Value.ref a)])) rfl rfl (hb hby own_d9_79)
          refine own_st st129 ?_
          show own_G p e below s _ _ _ (T129.setTop (mkF m 82 #[.val (Value.ref a), .val (Value.int x1), .val Value.null, .val (Value.int x3), .val (Value.int (own_dn 64 V D x1 x3)), .val (Value.int (x1 &&& ((128 : Int32) - (1 : Int32))))] [(Value.ref kl109)]))
          refine own_iload X129 hx hby own_d9_82 rfl ?_
          show own_G p e below s _ _ _ (T129.setTop (mkF m 84 #[.val (Value.ref a), .val (Value.int x1), .val Value.null, .val (Value.int x3), .val (Value.int (own_dn 64 V D x1 x3)), .val (Value.int (x1 &&& ((128 : Int32) - (1 : Int32))))] [(Value.int (x1 &&& ((128 : Int32) - (1 : Int32)))), (Value.ref kl109)]))
          refine own_aloadN X129 hx hby own_d9_84 rfl rfl ?_
          show own_G p e below s _ _ _ (T129.setTop (mkF m 85 #[.val (Value.ref a), .val (Value.int x1), .val Value.null, .val (Value.int x3), .val (Value.int (own_dn 64 V D x1 x3)), .val (Value.int (x1 &&& ((128 : Int32) - (1 : Int32))))] [Value.null, (Value.int (x1 &&& ((128 : Int32) - (1 : Int32)))), (Value.ref kl109)]))
          obtain ⟨T130, h130, X130, e130, W130, A130, st130⟩ := own_aastore X129 hx hby hZ e129 A128_kl109 rfl (j := (x1 &&& ((128 : Int32) - (1 : Int32)))) (i := (own_ix 128 x1)) (own_and_ix (n := 128) (by unfold own_pw; omega) x1).1 (own_and_ix (n := 128) (by unfold own_pw; omega) x1).2 (Or.inl rfl) own_d9_85 (Ls := #[.val (Value.ref a), .val (Value.int x1), .val Value.null, .val (Value.int x3), .val (Value.int (own_dn 64 V D x1 x3)), .val (Value.int (x1 &&& ((128 : Int32) - (1 : Int32))))]) (st := [])
          have F131_a_limit := Fld.other W130 F128_a_limit (Or.inl n2109)
          have F131_a_vertices := Fld.other W130 F128_a_vertices (Or.inl n2109)
          have F131_a_lists := Fld.other W130 F128_a_lists (Or.inl n2109)
          have F131_a_depths := Fld.other W130 F128_a_depths (Or.inl n2109)
          have E131_a := Exa.wr W130 E128_a
          have A131_kv109 := own_Ar.other A127n W130 n4109
          have A131_kd109 := own_Ar.other A128_kd109 W130 (Ne.symm n6109)
          have O131 := Old.wr O128 W130 gl109
          have N130 := Fr.snoc X130 N127 gl109
          have K130 := Keep.wr K127 W130 (Or.inr qzl109)
          have A130n : own_Ar Z h130 kl109 (.array .int) 128 (fun _ => Value.null) := own_Ar.fn A130 (by intro j _; simp only [own_set]; split <;> rfl)
          refine own_st st130 ?_
          show own_G p e below s _ _ _ (T130.setTop (mkF m 86 #[.val (Value.ref a), .val (Value.int x1), .val Value.null, .val (Value.int x3), .val (Value.int (own_dn 64 V D x1 x3)), .val (Value.int (x1 &&& ((128 : Int32) - (1 : Int32))))] []))
          refine own_aloadN X130 hx hby own_d9_86 rfl rfl ?_
          show own_G p e below s _ _ _ (T130.setTop (mkF m 87 #[.val (Value.ref a), .val (Value.int x1), .val Value.null, .val (Value.int x3), .val (Value.int (own_dn 64 V D x1 x3)), .val (Value.int (x1 &&& ((128 : Int32) - (1 : Int32))))] [(Value.ref a)]))
          obtain ⟨T132, X132, e132, st132⟩ := getF X130 hx hZ hown (host := "") (Or.inl (own_w39 hw)) Via.refl e130 F131_a_depths (g := (mkF m 87 #[.val (Value.ref a), .val (Value.int x1), .val Value.null, .val (Value.int x3), .val (Value.int (own_dn 64 V D x1 x3)), .val (Value.int (x1 &&& ((128 : Int32) - (1 : Int32))))] [(Value.ref a)])) rfl rfl (hb hby own_d9_87)
          refine own_st st132 ?_
          show own_G p e below s _ _ _ (T132.setTop (mkF m 90 #[.val (Value.ref a), .val (Value.int x1), .val Value.null, .val (Value.int x3), .val (Value.int (own_dn 64 V D x1 x3)), .val (Value.int (x1 &&& ((128 : Int32) - (1 : Int32))))] [(Value.ref kd109)]))
          refine own_iload X132 hx hby own_d9_90 rfl ?_
          show own_G p e below s _ _ _ (T132.setTop (mkF m 92 #[.val (Value.ref a), .val (Value.int x1), .val Value.null, .val (Value.int x3), .val (Value.int (own_dn 64 V D x1 x3)), .val (Value.int (x1 &&& ((128 : Int32) - (1 : Int32))))] [(Value.int (x1 &&& ((128 : Int32) - (1 : Int32)))), (Value.ref kd109)]))
          refine own_iload X132 hx hby own_d9_92 rfl ?_
          show own_G p e below s _ _ _ (T132.setTop (mkF m 94 #[.val (Value.ref a), .val (Value.int x1), .val Value.null, .val (Value.int x3), .val (Value.int (own_dn 64 V D x1 x3)), .val (Value.int (x1 &&& ((128 : Int32) - (1 : Int32))))] [(Value.int (own_dn 64 V D x1 x3)), (Value.int (x1 &&& ((128 : Int32) - (1 : Int32)))), (Value.ref kd109)]))
          obtain ⟨T133, h133, X133, e133, W133, A133, st133⟩ := own_iastore X132 hx hby hZ e132 A131_kd109 (j := (x1 &&& ((128 : Int32) - (1 : Int32)))) (i := (own_ix 128 x1)) (own_and_ix (n := 128) (by unfold own_pw; omega) x1).1 (own_and_ix (n := 128) (by unfold own_pw; omega) x1).2 (x := (own_dn 64 V D x1 x3)) own_d9_94 (Ls := #[.val (Value.ref a), .val (Value.int x1), .val Value.null, .val (Value.int x3), .val (Value.int (own_dn 64 V D x1 x3)), .val (Value.int (x1 &&& ((128 : Int32) - (1 : Int32))))]) (st := [])
          have F134_a_limit := Fld.other W133 F131_a_limit (Or.inl n3109)
          have F134_a_vertices := Fld.other W133 F131_a_vertices (Or.inl n3109)
          have F134_a_lists := Fld.other W133 F131_a_lists (Or.inl n3109)
          have F134_a_depths := Fld.other W133 F131_a_depths (Or.inl n3109)
          have E134_a := Exa.wr W133 E131_a
          have A134_kv109 := own_Ar.other A131_kv109 W133 n5109
          have A134_kl109 := own_Ar.other A130n W133 n6109
          have O134 := Old.wr O131 W133 gd109
          have N133 := Fr.snoc X133 N130 gd109
          have K133 := Keep.wr K130 W133 (Or.inr qzd109)
          have A133n : own_Ar Z h133 kd109 .int 128 (fun j => Value.int ((own_up (own_gd V D 64) (own_ix 128 x1) (own_dn 64 V D x1 x3)) j)) := own_Ar.fn A133 (by intro j _; simp only [own_set, own_up]; split <;> rfl)
          refine own_st st133 ?_
          show own_G p e below s _ _ _ (T133.setTop (mkF m 95 #[.val (Value.ref a), .val (Value.int x1), .val Value.null, .val (Value.int x3), .val (Value.int (own_dn 64 V D x1 x3)), .val (Value.int (x1 &&& ((128 : Int32) - (1 : Int32))))] []))
          refine own_ret0 X133 hx hby hlk Bd.returns own_d9_95 (by decide) (by decide) ?_
          show own_rmKG_Q Z a x1 x3 lim kv kl kd 64 V D h0 n0 _ T133.heap _
          rw [e133]
          exact ⟨rfl, N133, K133, kv109, kl109, kd109, _, _, _, (by unfold own_pw; omega), (Or.inl hl), own_put2 hI hv0 hl, E134_a, F134_a_limit, F134_a_vertices, F134_a_lists, F134_a_depths, A134_kv109, A134_kl109, A133n, gv109, gl109, gd109, n1109, n2109, n3109, n4109, n5109, n6109⟩
def own_rm0_Q (Z : State) (x0 : Int32) (x1 : Int32) (x2 : Int32) (x3 : Int32) (x4 : Int32) (x5 : Int32)  (h0 : Heap) (n0 : Nat) : Option Value → Heap → List Loc → Prop := fun v h L => v = some (.int 1) ∧ Fr n0 L
theorem own_rm0_ef (m : MethodId) (x0 : Int32) (x1 : Int32) (x2 : Int32) (x3 : Int32) (x4 : Int32) (x5 : Int32)  : entryFrame m #[(Value.int x0), (Value.int x1), (Value.int x2), (Value.int x3), (Value.int x4), (Value.int x5)] maxLocals = mkF m 0 #[.val (Value.int x0), .val (Value.int x1), .val (Value.int x2), .val (Value.int x3), .val (Value.int x4), .val (Value.int x5), .unset, .unset, .unset, .unset, .unset, .unset, .unset, .unset, .unset, .unset, .unset, .unset, .unset, .unset, .unset, .unset, .unset, .unset, .unset, .unset] [] := by first | (simp [entryFrame, mkF, argsToLocals, Value.category, maxLocals]; done) | rfl
set_option maxRecDepth 65536 in
set_option maxHeartbeats 40000000 in
theorem own_rm0 (l : Launch) (Z : State) (a0 : Array Value) (hw : ∀ d ∈ tables_1, d.before a0 Z = true) (ws : List Jvm.Cond) (x0 : Int32) (x1 : Int32) (x2 : Int32) (x3 : Int32) (x4 : Int32) (x5 : Int32)  (h0 : Heap) (n0 : Nat) (O0 : Old Z n0 h0)  :
    MetFree l x (head1 (Jvm.Cond.code x code maxLocals ret :: ws) room_1) (fun aa_ U => aa_ = #[(Value.int x0), (Value.int x1), (Value.int x2), (Value.int x3), (Value.int x4), (Value.int x5)] ∧ Z.Warmed39 U.vm ∧ U.heap = h0) (fun _ _ _ _ _ => True) (fun _ UU_ oo_ UX_ => ∃ vv_ LL_, oo_ = .returned vv_ ∧ (own_rm0_Q Z x0 x1 x2 x3 x4 x5 h0 n0) vv_ UX_.heap LL_ ∧ FrameEnd UU_ oo_ UX_ LL_ 24 1280) := by
  refine MetFree.of_bodySF (plainFor_of_name own_pn3) hisR ?_
  intro p e s m args below meth c s₁ Bd hml0 hP hK
  obtain ⟨rfl, hZ, hh⟩ := hP
  have hx := Bd.exec
  have hby := Bd.bytes
  have hml : c.maxLocals = 26 := hml0
  have hown : s.vm.findClass "com/example/tuck/tuck/ListWindowDepthPinLaw" = some m.cls := findClass_of_methodNamed Bd.named
  have hnm := (name_of_methodNamed Bd.named Bd.method).1
  have hlk : meth.locks = false := BodyLoose.notSynchronized Bd
  have X0 : Stand p l e room_1 s m #[(Value.int x0), (Value.int x1), (Value.int x2), (Value.int x3), (Value.int x4), (Value.int x5)] below meth c s₁ [] 0 0 := Stand.of_body Bd
  have e0 : s₁.heap = h0 := by rw [← hh, Bd.state]; rfl
  have N0 := Fr.nil n0
  show own_G p e below s (own_rm0_Q Z x0 x1 x2 x3 x4 x5 h0 n0) 24 1280 (s₁.setTop (entryFrame m #[(Value.int x0), (Value.int x1), (Value.int x2), (Value.int x3), (Value.int x4), (Value.int x5)] maxLocals))
  refine own_cast (own_rm0_ef m x0 x1 x2 x3 x4 x5 ) ?_
  have J30 : ∀ (cl : Int32), own_G p e below s (own_rm0_Q Z x0 x1 x2 x3 x4 x5 h0 n0) 24 1280 (s₁.setTop (mkF m 30 #[.val (Value.int x0), .val (Value.int x1), .val (Value.int x2), .val (Value.int x3), .val (Value.int x4), .val (Value.int x5), .val (Value.int (x0 &&& (127 : Int32))), .val (Value.int (((x0.toUInt32 >>> ((7 : Int32) &&& 31).toUInt32).toInt32) &&& (3 : Int32))), .val (Value.int cl), .unset, .unset, .unset, .unset, .unset, .unset, .unset, .unset, .unset, .unset, .unset, .unset, .unset, .unset, .unset, .unset, .unset] [])) := by
    intro cl
    show own_G p e below s _ _ _ (s₁.setTop (mkF m 30 #[.val (Value.int x0), .val (Value.int x1), .val (Value.int x2), .val (Value.int x3), .val (Value.int x4), .val (Value.int x5), .val (Value.int (x0 &&& (127 : Int32))), .val (Value.int (((x0.toUInt32 >>> ((7 : Int32) &&& 31).toUInt32).toInt32) &&& (3 : Int32))), .val (Value.int cl), .unset, .unset, .unset, .unset, .unset, .unset, .unset, .unset, .unset, .unset, .unset, .unset, .unset, .unset, .unset, .unset, .unset] []))
    refine own_iloadN X0 hx hby at_30 rfl ?_
    show own_G p e below s _ _ _ (s₁.setTop (mkF m 31 #[.val (Value.int x0), .val (Value.int x1), .val (Value.int x2), .val (Value.int x3), .val (Value.int x4), .val (Value.int x5), .val (Value.int (x0 &&& (127 : Int32))), .val (Value.int (((x0.toUInt32 >>> ((7 : Int32) &&& 31).toUInt32).toInt32) &&& (3 : Int32))), .val (Value.int cl), .unset, .unset, .unset, .unset, .unset, .unset, .unset, .unset, .unset, .unset, .unset, .unset, .unset, .unset, .unset, .unset, .unset] [(Value.int x1)]))
    refine own_ldcI X0 hx hby hZ hown (own_w0 hw) at_31 ?_
    show own_G p e below s _ _ _ (s₁.setTop (mkF m 33 #[.val (Value.int x0), .val (Value.int x1), .val (Value.int x2), .val (Value.int x3), .val (Value.int x4), .val (Value.int x5), .val (Value.int (x0 &&& (127 : Int32))), .val (Value.int (((x0.toUInt32 >>> ((7 : Int32) &&& 31).toUInt32).toInt32) &&& (3 : Int32))), .val (Value.int cl), .unset, .unset, .unset, .unset, .unset, .unset, .unset, .unset, .unset, .unset, .unset, .unset, .unset, .unset, .unset, .unset, .unset] [(Value.int (1073741823 : Int32)), (Value.int x1)]))
    refine own_iand X0 hx hby at_33 ?_
    show own_G p e below s _ _ _ (s₁.setTop (mkF m 34 #[.val (Value.int x0), .val (Value.int x1), .val (Value.int x2), .val (Value.int x3), .val (Value.int x4), .val (Value.int x5), .val (Value.int (x0 &&& (127 : Int32))), .val (Value.int (((x0.toUInt32 >>> ((7 : Int32) &&& 31).toUInt32).toInt32) &&& (3 : Int32))), .val (Value.int cl), .unset, .unset, .unset, .unset, .unset, .unset, .unset, .unset, .unset, .unset, .unset, .unset, .unset, .unset, .unset, .unset, .unset] [(Value.int (x1 &&& (1073741823 : Int32)))]))
    refine own_istore X0 hx hby at_34 (l' := #[.val (Value.int x0), .val (Value.int x1), .val (Value.int x2), .val (Value.int x3), .val (Value.int x4), .val (Value.int x5), .val (Value.int (x0 &&& (127 : Int32))), .val (Value.int (((x0.toUInt32 >>> ((7 : Int32) &&& 31).toUInt32).toInt32) &&& (3 : Int32))), .val (Value.int cl), .val (Value.int (x1 &&& (1073741823 : Int32))), .unset, .unset, .unset, .unset, .unset, .unset, .unset, .unset, .unset, .unset, .unset, .unset, .unset, .unset, .unset, .unset]) rfl ?_
    show own_G p e below s _ _ _ (s₁.setTop (mkF m 36 #[.val (Value.int x0), .val (Value.int x1), .val (Value.int x2), .val (Value.int x3), .val (Value.int x4), .val (Value.int x5), .val (Value.int (x0 &&& (127 : Int32))), .val (Value.int (((x0.toUInt32 >>> ((7 : Int32) &&& 31).toUInt32).toInt32) &&& (3 : Int32))), .val (Value.int cl), .val (Value.int (x1 &&& (1073741823 : Int32))), .unset, .unset, .unset, .unset, .unset, .unset, .unset, .unset, .unset, .unset, .unset, .unset, .unset, .unset, .unset, .unset] []))
    refine own_iload X0 hx hby at_36 rfl ?_
    show own_G p e below s _ _ _ (s₁.setTop (mkF m 38 #[.val (Value.int x0), .val (Value.int x1), .val (Value.int x2), .val (Value.int x3), .val (Value.int x4), .val (Value.int x5), .val (Value.int (x0 &&& (127 : Int32))), .val (Value.int (((x0.toUInt32 >>> ((7 : Int32) &&& 31).toUInt32).toInt32) &&& (3 : Int32))), .val (Value.int cl), .val (Value.int (x1 &&& (1073741823 : Int32))), .unset, .unset, .unset, .unset, .unset, .unset, .unset, .unset, .unset, .unset, .unset, .unset, .unset, .unset, .unset, .unset] [(Value.int (x1 &&& (1073741823 : Int32)))]))
    refine own_istore X0 hx hby at_38 (l' := #[.val (Value.int x0), .val (Value.int x1), .val (Value.int x2), .val (Value.int x3), .val (Value.int x4), .val (Value.int x5), .val (Value.int (x0 &&& (127 : Int32))), .val (Value.int (((x0.toUInt32 >>> ((7 : Int32) &&& 31).toUInt32).toInt32) &&& (3 : Int32))), .val (Value.int cl), .val (Value.int (x1 &&& (1073741823 : Int32))), .val (Value.int (x1 &&& (1073741823 : Int32))), .unset, .unset, .unset, .unset, .unset, .unset, .unset, .unset, .unset, .unset, .unset, .unset, .unset, .unset, .unset]) rfl ?_
    show own_G p e below s _ _ _ (s₁.setTop (mkF m 40 #[.val (Value.int x0), .val (Value.int x1), .val (Value.int x2), .val (Value.int x3), .val (Value.int x4), .val (Value.int x5), .val (Value.int (x0 &&& (127 : Int32))), .val (Value.int (((x0.toUInt32 >>> ((7 : Int32) &&& 31).toUInt32).toInt32) &&& (3 : Int32))), .val (Value.int cl), .val (Value.int (x1 &&& (1073741823 : Int32))), .val (Value.int (x1 &&& (1073741823 : Int32))), .unset, .unset, .unset, .unset, .unset, .unset, .unset, .unset, .unset, .unset, .unset, .unset, .unset, .unset, .unset] []))
    refine own_iload X0 hx hby at_40 rfl ?_
    show own_G p e below s _ _ _ (s₁.setTop (mkF m 42 #[.val (Value.int x0), .val (Value.int x1), .val (Value.int x2), .val (Value.int x3), .val (Value.int x4), .val (Value.int x5), .val (Value.int (x0 &&& (127 : Int32))), .val (Value.int (((x0.toUInt32 >>> ((7 : Int32) &&& 31).toUInt32).toInt32) &&& (3 : Int32))), .val (Value.int cl), .val (Value.int (x1 &&& (1073741823 : Int32))), .val (Value.int (x1 &&& (1073741823 : Int32))), .unset, .unset, .unset, .unset, .unset, .unset, .unset, .unset, .unset, .unset, .unset, .unset, .unset, .unset, .unset] [(Value.int (x1 &&& (1073741823 : Int32)))]))
    refine own_iconst X0 hx hby at_42 ?_
    show own_G p e below s _ _ _ (s₁.setTop (mkF m 43 #[.val (Value.int x0), .val (Value.int x1), .val (Value.int x2), .val (Value.int x3), .val (Value.int x4), .val (Value.int x5), .val (Value.int (x0 &&& (127 : Int32))), .val (Value.int (((x0.toUInt32 >>> ((7 : Int32) &&& 31).toUInt32).toInt32) &&& (3 : Int32))), .val (Value.int cl), .val (Value.int (x1 &&& (1073741823 : Int32))), .val (Value.int (x1 &&& (1073741823 : Int32))), .unset, .unset, .unset, .unset, .unset, .unset, .unset, .unset, .unset, .unset, .unset, .unset, .unset, .unset, .unset] [(Value.int (1 : Int32)), (Value.int (x1 &&& (1073741823 : Int32)))]))
    refine own_iadd X0 hx hby at_43 ?_
    show own_G p e below s _ _ _ (s₁.setTop (mkF m 44 #[.val (Value.int x0), .val (Value.int x1), .val (Value.int x2), .val (Value.int x3), .val (Value.int x4), .val (Value.int x5), .val (Value.int (x0 &&& (127 : Int32))), .val (Value.int (((x0.toUInt32 >>> ((7 : Int32) &&& 31).toUInt32).toInt32) &&& (3 : Int32))), .val (Value.int cl), .val (Value.int (x1 &&& (1073741823 : Int32))), .val (Value.int (x1 &&& (1073741823 : Int32))), .unset, .unset, .unset, .unset, .unset, .unset, .unset, .unset, .unset, .unset, .unset, .unset, .unset, .unset, .unset] [(Value.int ((x1 &&& (1073741823 : Int32)) + (1 : Int32)))]))
    refine own_iloadN X0 hx hby at_44 rfl ?_
    show own_G p e below s _ _ _ (s₁.setTop (mkF m 45 #[.val (Value.int x0), .val (Value.int x1), .val (Value.int x2), .val (Value.int x3), .val (Value.int x4), .val (Value.int x5), .val (Value.int (x0 &&& (127 : Int32))), .val (Value.int (((x0.toUInt32 >>> ((7 : Int32) &&& 31).toUInt32).toInt32) &&& (3 : Int32))), .val (Value.int cl), .val (Value.int (x1 &&& (1073741823 : Int32))), .val (Value.int (x1 &&& (1073741823 : Int32))), .unset, .unset, .unset, .unset, .unset, .unset, .unset, .unset, .unset, .unset, .unset, .unset, .unset, .unset, .unset] [(Value.int x3), (Value.int ((x1 &&& (1073741823 : Int32)) + (1 : Int32)))]))
    refine own_bipush X0 hx hby at_45 ?_
    show own_G p e below s _ _ _ (s₁.setTop (mkF m 47 #[.val (Value.int x0), .val (Value.int x1), .val (Value.int x2), .val (Value.int x3), .val (Value.int x4), .val (Value.int x5), .val (Value.int (x0 &&& (127 : Int32))), .val (Value.int (((x0.toUInt32 >>> ((7 : Int32) &&& 31).toUInt32).toInt32) &&& (3 : Int32))), .val (Value.int cl), .val (Value.int (x1 &&& (1073741823 : Int32))), .val (Value.int (x1 &&& (1073741823 : Int32))), .unset, .unset, .unset, .unset, .unset, .unset, .unset, .unset, .unset, .unset, .unset, .unset, .unset, .unset, .unset] [(Value.int (127 : Int32)), (Value.int x3), (Value.int ((x1 &&& (1073741823 : Int32)) + (1 : Int32)))]))
    refine own_iand X0 hx hby at_47 ?_
    show own_G p e below s _ _ _ (s₁.setTop (mkF m 48 #[.val (Value.int x0), .val (Value.int x1), .val (Value.int x2), .val (Value.int x3), .val (Value.int x4), .val (Value.int x5), .val (Value.int (x0 &&& (127 : Int32))), .val (Value.int (((x0.toUInt32 >>> ((7 : Int32) &&& 31).toUInt32).toInt32) &&& (3 : Int32))), .val (Value.int cl), .val (Value.int (x1 &&& (1073741823 : Int32))), .val (Value.int (x1 &&& (1073741823 : Int32))), .unset, .unset, .unset, .unset, .unset, .unset, .unset, .unset, .unset, .unset, .unset, .unset, .unset, .unset, .unset] [(Value.int (x3 &&& (127 : Int32))), (Value.int ((x1 &&& (1073741823 : Int32)) + (1 : Int32)))]))
    refine own_iadd X0 hx hby at_48 ?_
    show own_G p e below s _ _ _ (s₁.setTop (mkF m 49 #[.val (Value.int x0), .val (Value.int x1), .val (Value.int x2), .val (Value.int x3), .val (Value.int x4), .val (Value.int x5), .val (Value.int (x0 &&& (127 : Int32))), .val (Value.int (((x0.toUInt32 >>> ((7 : Int32) &&& 31).toUInt32).toInt32) &&& (3 : Int32))), .val (Value.int cl), .val (Value.int (x1 &&& (1073741823 : Int32))), .val (Value.int (x1 &&& (1073741823 : Int32))), .unset, .unset, .unset, .unset, .unset, .unset, .unset, .unset, .unset, .unset, .unset, .unset, .unset, .unset, .unset] [(Value.int (((x1 &&& (1073741823 : Int32)) + (1 : Int32)) + (x3 &&& (127 : Int32))))]))
    refine own_istore X0 hx hby at_49 (l' := #[.val (Value.int x0), .val (Value.int x1), .val (Value.int x2), .val (Value.int x3), .val (Value.int x4), .val (Value.int x5), .val (Value.int (x0 &&& (127 : Int32))), .val (Value.int (((x0.toUInt32 >>> ((7 : Int32) &&& 31).toUInt32).toInt32) &&& (3 : Int32))), .val (Value.int cl), .val (Value.int (x1 &&& (1073741823 : Int32))), .val (Value.int (x1 &&& (1073741823 : Int32))), .val (Value.int (((x1 &&& (1073741823 : Int32)) + (1 : Int32)) + (x3 &&& (127 : Int32)))), .unset, .unset, .unset, .unset, .unset, .unset, .unset, .unset, .unset, .unset, .unset, .unset, .unset, .unset]) rfl ?_
    show own_G p e below s _ _ _ (s₁.setTop (mkF m 51 #[.val (Value.int x0), .val (Value.int x1), .val (Value.int x2), .val (Value.int x3), .val (Value.int x4), .val (Value.int x5), .val (Value.int (x0 &&& (127 : Int32))), .val (Value.int (((x0.toUInt32 >>> ((7 : Int32) &&& 31).toUInt32).toInt32) &&& (3 : Int32))), .val (Value.int cl), .val (Value.int (x1 &&& (1073741823 : Int32))), .val (Value.int (x1 &&& (1073741823 : Int32))), .val (Value.int (((x1 &&& (1073741823 : Int32)) + (1 : Int32)) + (x3 &&& (127 : Int32)))), .unset, .unset, .unset, .unset, .unset, .unset, .unset, .unset, .unset, .unset, .unset, .unset, .unset, .unset] []))
    refine own_iload X0 hx hby at_51 rfl ?_
    show own_G p e below s _ _ _ (s₁.setTop (mkF m 53 #[.val (Value.int x0), .val (Value.int x1), .val (Value.int x2), .val (Value.int x3), .val (Value.int x4), .val (Value.int x5), .val (Value.int (x0 &&& (127 : Int32))), .val (Value.int (((x0.toUInt32 >>> ((7 : Int32) &&& 31).toUInt32).toInt32) &&& (3 : Int32))), .val (Value.int cl), .val (Value.int (x1 &&& (1073741823 : Int32))), .val (Value.int (x1 &&& (1073741823 : Int32))), .val (Value.int (((x1 &&& (1073741823 : Int32)) + (1 : Int32)) + (x3 &&& (127 : Int32)))), .unset, .unset, .unset, .unset, .unset, .unset, .unset, .unset, .unset, .unset, .unset, .unset, .unset, .unset] [(Value.int (((x1 &&& (1073741823 : Int32)) + (1 : Int32)) + (x3 &&& (127 : Int32))))]))
    refine own_iconst X0 hx hby at_53 ?_
    show own_G p e below s _ _ _ (s₁.setTop (mkF m 54 #[.val (Value.int x0), .val (Value.int x1), .val (Value.int x2), .val (Value.int x3), .val (Value.int x4), .val (Value.int x5), .val (Value.int (x0 &&& (127 : Int32))), .val (Value.int (((x0.toUInt32 >>> ((7 : Int32) &&& 31).toUInt32).toInt32) &&& (3 : Int32))), .val (Value.int cl), .val (Value.int (x1 &&& (1073741823 : Int32))), .val (Value.int (x1 &&& (1073741823 : Int32))), .val (Value.int (((x1 &&& (1073741823 : Int32)) + (1 : Int32)) + (x3 &&& (127 : Int32)))), .unset, .unset, .unset, .unset, .unset, .unset, .unset, .unset, .unset, .unset, .unset, .unset, .unset, .unset] [(Value.int (1 : Int32)), (Value.int (((x1 &&& (1073741823 : Int32)) + (1 : Int32)) + (x3 &&& (127 : Int32))))]))
    refine own_iadd X0 hx hby at_54 ?_
    show own_G p e below s _ _ _ (s₁.setTop (mkF m 55 #[.val (Value.int x0), .val (Value.int x1), .val (Value.int x2), .val (Value.int x3), .val (Value.int x4), .val (Value.int x5), .val (Value.int (x0 &&& (127 : Int32))), .val (Value.int (((x0.toUInt32 >>> ((7 : Int32) &&& 31).toUInt32).toInt32) &&& (3 : Int32))), .val (Value.int cl), .val (Value.int (x1 &&& (1073741823 : Int32))), .val (Value.int (x1 &&& (1073741823 : Int32))), .val (Value.int (((x1 &&& (1073741823 : Int32)) + (1 : Int32)) + (x3 &&& (127 : Int32)))), .unset, .unset, .unset, .unset, .unset, .unset, .unset, .unset, .unset, .unset, .unset, .unset, .unset, .unset] [(Value.int ((((x1 &&& (1073741823 : Int32)) + (1 : Int32)) + (x3 &&& (127 : Int32))) + (1 : Int32)))]))
    refine own_iloadN X0 hx hby at_55 rfl ?_
    show own_G p e below s _ _ _ (s₁.setTop (mkF m 56 #[.val (Value.int x0), .val (Value.int x1), .val (Value.int x2), .val (Value.int x3), .val (Value.int x4), .val (Value.int x5), .val (Value.int (x0 &&& (127 : Int32))), .val (Value.int (((x0.toUInt32 >>> ((7 : Int32) &&& 31).toUInt32).toInt32) &&& (3 : Int32))), .val (Value.int cl), .val (Value.int (x1 &&& (1073741823 : Int32))), .val (Value.int (x1 &&& (1073741823 : Int32))), .val (Value.int (((x1 &&& (1073741823 : Int32)) + (1 : Int32)) + (x3 &&& (127 : Int32)))), .unset, .unset, .unset, .unset, .unset, .unset, .unset, .unset, .unset, .unset, .unset, .unset, .unset, .unset] [(Value.int x3), (Value.int ((((x1 &&& (1073741823 : Int32)) + (1 : Int32)) + (x3 &&& (127 : Int32))) + (1 : Int32)))]))
    refine own_bipush X0 hx hby at_56 ?_
    show own_G p e below s _ _ _ (s₁.setTop (mkF m 58 #[.val (Value.int x0), .val (Value.int x1), .val (Value.int x2), .val (Value.int x3), .val (Value.int x4), .val (Value.int x5), .val (Value.int (x0 &&& (127 : Int32))), .val (Value.int (((x0.toUInt32 >>> ((7 : Int32) &&& 31).toUInt32).toInt32) &&& (3 : Int32))), .val (Value.int cl), .val (Value.int (x1 &&& (1073741823 : Int32))), .val (Value.int (x1 &&& (1073741823 : Int32))), .val (Value.int (((x1 &&& (1073741823 : Int32)) + (1 : Int32)) + (x3 &&& (127 : Int32)))), .unset, .unset, .unset, .unset, .unset, .unset, .unset, .unset, .unset, .unset, .unset, .unset, .unset, .unset] [(Value.int (7 : Int32)), (Value.int x3), (Value.int ((((x1 &&& (1073741823 : Int32)) + (1 : Int32)) + (x3 &&& (127 : Int32))) + (1 : Int32)))]))
    refine own_iushr X0 hx hby at_58 ?_
    show own_G p e below s _ _ _ (s₁.setTop (mkF m 59 #[.val (Value.int x0), .val (Value.int x1), .val (Value.int x2), .val (Value.int x3), .val (Value.int x4), .val (Value.int x5), .val (Value.int (x0 &&& (127 : Int32))), .val (Value.int (((x0.toUInt32 >>> ((7 : Int32) &&& 31).toUInt32).toInt32) &&& (3 : Int32))), .val (Value.int cl), .val (Value.int (x1 &&& (1073741823 : Int32))), .val (Value.int (x1 &&& (1073741823 : Int32))), .val (Value.int (((x1 &&& (1073741823 : Int32)) + (1 : Int32)) + (x3 &&& (127 : Int32)))), .unset, .unset, .unset, .unset, .unset, .unset, .unset, .unset, .unset, .unset, .unset, .unset, .unset, .unset] [(Value.int ((x3.toUInt32 >>> ((7 : Int32) &&& 31).toUInt32).toInt32)), (Value.int ((((x1 &&& (1073741823 : Int32)) + (1 : Int32)) + (x3 &&& (127 : Int32))) + (1 : Int32)))]))
    refine own_bipush X0 hx hby at_59 ?_
    show own_G p e below s _ _ _ (s₁.setTop (mkF m 61 #[.val (Value.int x0), .val (Value.int x1), .val (Value.int x2), .val (Value.int x3), .val (Value.int x4), .val (Value.int x5), .val (Value.int (x0 &&& (127 : Int32))), .val (Value.int (((x0.toUInt32 >>> ((7 : Int32) &&& 31).toUInt32).toInt32) &&& (3 : Int32))), .val (Value.int cl), .val (Value.int (x1 &&& (1073741823 : Int32))), .val (Value.int (x1 &&& (1073741823 : Int32))), .val (Value.int (((x1 &&& (1073741823 : Int32)) + (1 : Int32)) + (x3 &&& (127 : Int32)))), .unset, .unset, .unset, .unset, .unset, .unset, .unset, .unset, .unset, .unset, .unset, .unset, .unset, .unset] [(Value.int (127 : Int32)), (Value.int ((x3.toUInt32 >>> ((7 : Int32) &&& 31).toUInt32).toInt32)), (Value.int ((((x1 &&& (1073741823 : Int32)) + (1 : Int32)) + (x3 &&& (127 : Int32))) + (1 : Int32)))]))
    refine own_iand X0 hx hby at_61 ?_
    show own_G p e below s _ _ _ (s₁.setTop (mkF m 62 #[.val (Value.int x0), .val (Value.int x1), .val (Value.int x2), .val (Value.int x3), .val (Value.int x4), .val (Value.int x5), .val (Value.int (x0 &&& (127 : Int32))), .val (Value.int (((x0.toUInt32 >>> ((7 : Int32) &&& 31).toUInt32).toInt32) &&& (3 : Int32))), .val (Value.int cl), .val (Value.int (x1 &&& (1073741823 : Int32))), .val (Value.int (x1 &&& (1073741823 : Int32))), .val (Value.int (((x1 &&& (1073741823 : Int32)) + (1 : Int32)) + (x3 &&& (127 : Int32)))), .unset, .unset, .unset, .unset, .unset, .unset, .unset, .unset, .unset, .unset, .unset, .unset, .unset, .unset] [(Value.int (((x3.toUInt32 >>> ((7 : Int32) &&& 31).toUInt32).toInt32) &&& (127 : Int32))), (Value.int ((((x1 &&& (1073741823 : Int32)) + (1 : Int32)) + (x3 &&& (127 : Int32))) + (1 : Int32)))]))
    refine own_iadd X0 hx hby at_62 ?_
    show own_G p e below s _ _ _ (s₁.setTop (mkF m 63 #[.val (Value.int x0), .val (Value.int x1), .val (Value.int x2), .val (Value.int x3), .val (Value.int x4), .val (Value.int x5), .val (Value.int (x0 &&& (127 : Int32))), .val (Value.int (((x0.toUInt32 >>> ((7 : Int32) &&& 31).toUInt32).toInt32) &&& (3 : Int32))), .val (Value.int cl), .val (Value.int (x1 &&& (1073741823 : Int32))), .val (Value.int (x1 &&& (1073741823 : Int32))), .val (Value.int (((x1 &&& (1073741823 : Int32)) + (1 : Int32)) + (x3 &&& (127 : Int32)))), .unset, .unset, .unset, .unset, .unset, .unset, .unset, .unset, .unset, .unset, .unset, .unset, .unset, .unset] [(Value.int (((((x1 &&& (1073741823 : Int32)) + (1 : Int32)) + (x3 &&& (127 : Int32))) + (1 : Int32)) + (((x3.toUInt32 >>> ((7 : Int32) &&& 31).toUInt32).toInt32) &&& (127 : Int32))))]))
    refine own_istore X0 hx hby at_63 (l' := #[.val (Value.int x0), .val (Value.int x1), .val (Value.int x2), .val (Value.int x3), .val (Value.int x4), .val (Value.int x5), .val (Value.int (x0 &&& (127 : Int32))), .val (Value.int (((x0.toUInt32 >>> ((7 : Int32) &&& 31).toUInt32).toInt32) &&& (3 : Int32))), .val (Value.int cl), .val (Value.int (x1 &&& (1073741823 : Int32))), .val (Value.int (x1 &&& (1073741823 : Int32))), .val (Value.int (((x1 &&& (1073741823 : Int32)) + (1 : Int32)) + (x3 &&& (127 : Int32)))), .val (Value.int (((((x1 &&& (1073741823 : Int32)) + (1 : Int32)) + (x3 &&& (127 : Int32))) + (1 : Int32)) + (((x3.toUInt32 >>> ((7 : Int32) &&& 31).toUInt32).toInt32) &&& (127 : Int32)))), .unset, .unset, .unset, .unset, .unset, .unset, .unset, .unset, .unset, .unset, .unset, .unset, .unset]) rfl ?_
    show own_G p e below s _ _ _ (s₁.setTop (mkF m 65 #[.val (Value.int x0), .val (Value.int x1), .val (Value.int x2), .val (Value.int x3), .val (Value.int x4), .val (Value.int x5), .val (Value.int (x0 &&& (127 : Int32))), .val (Value.int (((x0.toUInt32 >>> ((7 : Int32) &&& 31).toUInt32).toInt32) &&& (3 : Int32))), .val (Value.int cl), .val (Value.int (x1 &&& (1073741823 : Int32))), .val (Value.int (x1 &&& (1073741823 : Int32))), .val (Value.int (((x1 &&& (1073741823 : Int32)) + (1 : Int32)) + (x3 &&& (127 : Int32)))), .val (Value.int (((((x1 &&& (1073741823 : Int32)) + (1 : Int32)) + (x3 &&& (127 : Int32))) + (1 : Int32)) + (((x3.toUInt32 >>> ((7 : Int32) &&& 31).toUInt32).toInt32) &&& (127 : Int32)))), .unset, .unset, .unset, .unset, .unset, .unset, .unset, .unset, .unset, .unset, .unset, .unset, .unset] []))
    refine own_iload X0 hx hby at_65 rfl ?_
    show own_G p e below s _ _ _ (s₁.setTop (mkF m 67 #[.val (Value.int x0), .val (Value.int x1), .val (Value.int x2), .val (Value.int x3), .val (Value.int x4), .val (Value.int x5), .val (Value.int (x0 &&& (127 : Int32))), .val (Value.int (((x0.toUInt32 >>> ((7 : Int32) &&& 31).toUInt32).toInt32) &&& (3 : Int32))), .val (Value.int cl), .val (Value.int (x1 &&& (1073741823 : Int32))), .val (Value.int (x1 &&& (1073741823 : Int32))), .val (Value.int (((x1 &&& (1073741823 : Int32)) + (1 : Int32)) + (x3 &&& (127 : Int32)))), .val (Value.int (((((x1 &&& (1073741823 : Int32)) + (1 : Int32)) + (x3 &&& (127 : Int32))) + (1 : Int32)) + (((x3.toUInt32 >>> ((7 : Int32) &&& 31).toUInt32).toInt32) &&& (127 : Int32)))), .unset, .unset, .unset, .unset, .unset, .unset, .unset, .unset, .unset, .unset, .unset, .unset, .unset] [(Value.int (((((x1 &&& (1073741823 : Int32)) + (1 : Int32)) + (x3 &&& (127 : Int32))) + (1 : Int32)) + (((x3.toUInt32 >>> ((7 : Int32) &&& 31).toUInt32).toInt32) &&& (127 : Int32))))]))
    refine own_iconst X0 hx hby at_67 ?_
    show own_G p e below s _ _ _ (s₁.setTop (mkF m 68 #[.val (Value.int x0), .val (Value.int x1), .val (Value.int x2), .val (Value.int x3), .val (Value.int x4), .val (Value.int x5), .val (Value.int (x0 &&& (127 : Int32))), .val (Value.int (((x0.toUInt32 >>> ((7 : Int32) &&& 31).toUInt32).toInt32) &&& (3 : Int32))), .val (Value.int cl), .val (Value.int (x1 &&& (1073741823 : Int32))), .val (Value.int (x1 &&& (1073741823 : Int32))), .val (Value.int (((x1 &&& (1073741823 : Int32)) + (1 : Int32)) + (x3 &&& (127 : Int32)))), .val (Value.int (((((x1 &&& (1073741823 : Int32)) + (1 : Int32)) + (x3 &&& (127 : Int32))) + (1 : Int32)) + (((x3.toUInt32 >>> ((7 : Int32) &&& 31).toUInt32).toInt32) &&& (127 : Int32)))), .unset, .unset, .unset, .unset, .unset, .unset, .unset, .unset, .unset, .unset, .unset, .unset, .unset] [(Value.int (1 : Int32)), (Value.int (((((x1 &&& (1073741823 : Int32)) + (1 : Int32)) + (x3 &&& (127 : Int32))) + (1 : Int32)) + (((x3.toUInt32 >>> ((7 : Int32) &&& 31).toUInt32).toInt32) &&& (127 : Int32))))]))
    refine own_iadd X0 hx hby at_68 ?_
    show own_G p e below s _ _ _ (s₁.setTop (mkF m 69 #[.val (Value.int x0), .val (Value.int x1), .val (Value.int x2), .val (Value.int x3), .val (Value.int x4), .val (Value.int x5), .val (Value.int (x0 &&& (127 : Int32))), .val (Value.int (((x0.toUInt32 >>> ((7 : Int32) &&& 31).toUInt32).toInt32) &&& (3 : Int32))), .val (Value.int cl), .val (Value.int (x1 &&& (1073741823 : Int32))), .val (Value.int (x1 &&& (1073741823 : Int32))), .val (Value.int (((x1 &&& (1073741823 : Int32)) + (1 : Int32)) + (x3 &&& (127 : Int32)))), .val (Value.int (((((x1 &&& (1073741823 : Int32)) + (1 : Int32)) + (x3 &&& (127 : Int32))) + (1 : Int32)) + (((x3.toUInt32 >>> ((7 : Int32) &&& 31).toUInt32).toInt32) &&& (127 : Int32)))), .unset, .unset, .unset, .unset, .unset, .unset, .unset, .unset, .unset, .unset, .unset, .unset, .unset] [(Value.int ((((((x1 &&& (1073741823 : Int32)) + (1 : Int32)) + (x3 &&& (127 : Int32))) + (1 : Int32)) + (((x3.toUInt32 >>> ((7 : Int32) &&& 31).toUInt32).toInt32) &&& (127 : Int32))) + (1 : Int32)))]))
    refine own_iloadN X0 hx hby at_69 rfl ?_
    show own_G p e below s _ _ _ (s₁.setTop (mkF m 70 #[.val (Value.int x0), .val (Value.int x1), .val (Value.int x2), .val (Value.int x3), .val (Value.int x4), .val (Value.int x5), .val (Value.int (x0 &&& (127 : Int32))), .val (Value.int (((x0.toUInt32 >>> ((7 : Int32) &&& 31).toUInt32).toInt32) &&& (3 : Int32))), .val (Value.int cl), .val (Value.int (x1 &&& (1073741823 : Int32))), .val (Value.int (x1 &&& (1073741823 : Int32))), .val (Value.int (((x1 &&& (1073741823 : Int32)) + (1 : Int32)) + (x3 &&& (127 : Int32)))), .val (Value.int (((((x1 &&& (1073741823 : Int32)) + (1 : Int32)) + (x3 &&& (127 : Int32))) + (1 : Int32)) + (((x3.toUInt32 >>> ((7 : Int32) &&& 31).toUInt32).toInt32) &&& (127 : Int32)))), .unset, .unset, .unset, .unset, .unset, .unset, .unset, .unset, .unset, .unset, .unset, .unset, .unset] [(Value.int x2), (Value.int ((((((x1 &&& (1073741823 : Int32)) + (1 : Int32)) + (x3 &&& (127 : Int32))) + (1 : Int32)) + (((x3.toUInt32 >>> ((7 : Int32) &&& 31).toUInt32).toInt32) &&& (127 : Int32))) + (1 : Int32)))]))
    refine own_sipush X0 hx hby at_70 ?_
    show own_G p e below s _ _ _ (s₁.setTop (mkF m 73 #[.val (Value.int x0), .val (Value.int x1), .val (Value.int x2), .val (Value.int x3), .val (Value.int x4), .val (Value.int x5), .val (Value.int (x0 &&& (127 : Int32))), .val (Value.int (((x0.toUInt32 >>> ((7 : Int32) &&& 31).toUInt32).toInt32) &&& (3 : Int32))), .val (Value.int cl), .val (Value.int (x1 &&& (1073741823 : Int32))), .val (Value.int (x1 &&& (1073741823 : Int32))), .val (Value.int (((x1 &&& (1073741823 : Int32)) + (1 : Int32)) + (x3 &&& (127 : Int32)))), .val (Value.int (((((x1 &&& (1073741823 : Int32)) + (1 : Int32)) + (x3 &&& (127 : Int32))) + (1 : Int32)) + (((x3.toUInt32 >>> ((7 : Int32) &&& 31).toUInt32).toInt32) &&& (127 : Int32)))), .unset, .unset, .unset, .unset, .unset, .unset, .unset, .unset, .unset, .unset, .unset, .unset, .unset] [(Value.int (255 : Int32)), (Value.int x2), (Value.int ((((((x1 &&& (1073741823 : Int32)) + (1 : Int32)) + (x3 &&& (127 : Int32))) + (1 : Int32)) + (((x3.toUInt32 >>> ((7 : Int32) &&& 31).toUInt32).toInt32) &&& (127 : Int32))) + (1 : Int32)))]))
    refine own_iand X0 hx hby at_73 ?_
    show own_G p e below s _ _ _ (s₁.setTop (mkF m 74 #[.val (Value.int x0), .val (Value.int x1), .val (Value.int x2), .val (Value.int x3), .val (Value.int x4), .val (Value.int x5), .val (Value.int (x0 &&& (127 : Int32))), .val (Value.int (((x0.toUInt32 >>> ((7 : Int32) &&& 31).toUInt32).toInt32) &&& (3 : Int32))), .val (Value.int cl), .val (Value.int (x1 &&& (1073741823 : Int32))), .val (Value.int (x1 &&& (1073741823 : Int32))), .val (Value.int (((x1 &&& (1073741823 : Int32)) + (1 : Int32)) + (x3 &&& (127 : Int32)))), .val (Value.int (((((x1 &&& (1073741823 : Int32)) + (1 : Int32)) + (x3 &&& (127 : Int32))) + (1 : Int32)) + (((x3.toUInt32 >>> ((7 : Int32) &&& 31).toUInt32).toInt32) &&& (127 : Int32)))), .unset, .unset, .unset, .unset, .unset, .unset, .unset, .unset, .unset, .unset, .unset, .unset, .unset] [(Value.int (x2 &&& (255 : Int32))), (Value.int ((((((x1 &&& (1073741823 : Int32)) + (1 : Int32)) + (x3 &&& (127 : Int32))) + (1 : Int32)) + (((x3.toUInt32 >>> ((7 : Int32) &&& 31).toUInt32).toInt32) &&& (127 : Int32))) + (1 : Int32)))]))
    refine own_iadd X0 hx hby at_74 ?_
    show own_G p e below s _ _ _ (s₁.setTop (mkF m 75 #[.val (Value.int x0), .val (Value.int x1), .val (Value.int x2), .val (Value.int x3), .val (Value.int x4), .val (Value.int x5), .val (Value.int (x0 &&& (127 : Int32))), .val (Value.int (((x0.toUInt32 >>> ((7 : Int32) &&& 31).toUInt32).toInt32) &&& (3 : Int32))), .val (Value.int cl), .val (Value.int (x1 &&& (1073741823 : Int32))), .val (Value.int (x1 &&& (1073741823 : Int32))), .val (Value.int (((x1 &&& (1073741823 : Int32)) + (1 : Int32)) + (x3 &&& (127 : Int32)))), .val (Value.int (((((x1 &&& (1073741823 : Int32)) + (1 : Int32)) + (x3 &&& (127 : Int32))) + (1 : Int32)) + (((x3.toUInt32 >>> ((7 : Int32) &&& 31).toUInt32).toInt32) &&& (127 : Int32)))), .unset, .unset, .unset, .unset, .unset, .unset, .unset, .unset, .unset, .unset, .unset, .unset, .unset] [(Value.int (((((((x1 &&& (1073741823 : Int32)) + (1 : Int32)) + (x3 &&& (127 : Int32))) + (1 : Int32)) + (((x3.toUInt32 >>> ((7 : Int32) &&& 31).toUInt32).toInt32) &&& (127 : Int32))) + (1 : Int32)) + (x2 &&& (255 : Int32))))]))
    refine own_istore X0 hx hby at_75 (l' := #[.val (Value.int x0), .val (Value.int x1), .val (Value.int x2), .val (Value.int x3), .val (Value.int x4), .val (Value.int x5), .val (Value.int (x0 &&& (127 : Int32))), .val (Value.int (((x0.toUInt32 >>> ((7 : Int32) &&& 31).toUInt32).toInt32) &&& (3 : Int32))), .val (Value.int cl), .val (Value.int (x1 &&& (1073741823 : Int32))), .val (Value.int (x1 &&& (1073741823 : Int32))), .val (Value.int (((x1 &&& (1073741823 : Int32)) + (1 : Int32)) + (x3 &&& (127 : Int32)))), .val (Value.int (((((x1 &&& (1073741823 : Int32)) + (1 : Int32)) + (x3 &&& (127 : Int32))) + (1 : Int32)) + (((x3.toUInt32 >>> ((7 : Int32) &&& 31).toUInt32).toInt32) &&& (127 : Int32)))), .val (Value.int (((((((x1 &&& (1073741823 : Int32)) + (1 : Int32)) + (x3 &&& (127 : Int32))) + (1 : Int32)) + (((x3.toUInt32 >>> ((7 : Int32) &&& 31).toUInt32).toInt32) &&& (127 : Int32))) + (1 : Int32)) + (x2 &&& (255 : Int32)))), .unset, .unset, .unset, .unset, .unset, .unset, .unset, .unset, .unset, .unset, .unset, .unset]) rfl ?_
    show own_G p e below s _ _ _ (s₁.setTop (mkF m 77 #[.val (Value.int x0), .val (Value.int x1), .val (Value.int x2), .val (Value.int x3), .val (Value.int x4), .val (Value.int x5), .val (Value.int (x0 &&& (127 : Int32))), .val (Value.int (((x0.toUInt32 >>> ((7 : Int32) &&& 31).toUInt32).toInt32) &&& (3 : Int32))), .val (Value.int cl), .val (Value.int (x1 &&& (1073741823 : Int32))), .val (Value.int (x1 &&& (1073741823 : Int32))), .val (Value.int (((x1 &&& (1073741823 : Int32)) + (1 : Int32)) + (x3 &&& (127 : Int32)))), .val (Value.int (((((x1 &&& (1073741823 : Int32)) + (1 : Int32)) + (x3 &&& (127 : Int32))) + (1 : Int32)) + (((x3.toUInt32 >>> ((7 : Int32) &&& 31).toUInt32).toInt32) &&& (127 : Int32)))), .val (Value.int (((((((x1 &&& (1073741823 : Int32)) + (1 : Int32)) + (x3 &&& (127 : Int32))) + (1 : Int32)) + (((x3.toUInt32 >>> ((7 : Int32) &&& 31).toUInt32).toInt32) &&& (127 : Int32))) + (1 : Int32)) + (x2 &&& (255 : Int32)))), .unset, .unset, .unset, .unset, .unset, .unset, .unset, .unset, .unset, .unset, .unset, .unset] []))
    refine own_iload X0 hx hby at_77 rfl ?_
    show own_G p e below s _ _ _ (s₁.setTop (mkF m 79 #[.val (Value.int x0), .val (Value.int x1), .val (Value.int x2), .val (Value.int x3), .val (Value.int x4), .val (Value.int x5), .val (Value.int (x0 &&& (127 : Int32))), .val (Value.int (((x0.toUInt32 >>> ((7 : Int32) &&& 31).toUInt32).toInt32) &&& (3 : Int32))), .val (Value.int cl), .val (Value.int (x1 &&& (1073741823 : Int32))), .val (Value.int (x1 &&& (1073741823 : Int32))), .val (Value.int (((x1 &&& (1073741823 : Int32)) + (1 : Int32)) + (x3 &&& (127 : Int32)))), .val (Value.int (((((x1 &&& (1073741823 : Int32)) + (1 : Int32)) + (x3 &&& (127 : Int32))) + (1 : Int32)) + (((x3.toUInt32 >>> ((7 : Int32) &&& 31).toUInt32).toInt32) &&& (127 : Int32)))), .val (Value.int (((((((x1 &&& (1073741823 : Int32)) + (1 : Int32)) + (x3 &&& (127 : Int32))) + (1 : Int32)) + (((x3.toUInt32 >>> ((7 : Int32) &&& 31).toUInt32).toInt32) &&& (127 : Int32))) + (1 : Int32)) + (x2 &&& (255 : Int32)))), .unset, .unset, .unset, .unset, .unset, .unset, .unset, .unset, .unset, .unset, .unset, .unset] [(Value.int x4)]))
    refine own_sipush X0 hx hby at_79 ?_
    show own_G p e below s _ _ _ (s₁.setTop (mkF m 82 #[.val (Value.int x0), .val (Value.int x1), .val (Value.int x2), .val (Value.int x3), .val (Value.int x4), .val (Value.int x5), .val (Value.int (x0 &&& (127 : Int32))), .val (Value.int (((x0.toUInt32 >>> ((7 : Int32) &&& 31).toUInt32).toInt32) &&& (3 : Int32))), .val (Value.int cl), .val (Value.int (x1 &&& (1073741823 : Int32))), .val (Value.int (x1 &&& (1073741823 : Int32))), .val (Value.int (((x1 &&& (1073741823 : Int32)) + (1 : Int32)) + (x3 &&& (127 : Int32)))), .val (Value.int (((((x1 &&& (1073741823 : Int32)) + (1 : Int32)) + (x3 &&& (127 : Int32))) + (1 : Int32)) + (((x3.toUInt32 >>> ((7 : Int32) &&& 31).toUInt32).toInt32) &&& (127 : Int32)))), .val (Value.int (((((((x1 &&& (1073741823 : Int32)) + (1 : Int32)) + (x3 &&& (127 : Int32))) + (1 : Int32)) + (((x3.toUInt32 >>> ((7 : Int32) &&& 31).toUInt32).toInt32) &&& (127 : Int32))) + (1 : Int32)) + (x2 &&& (255 : Int32)))), .unset, .unset, .unset, .unset, .unset, .unset, .unset, .unset, .unset, .unset, .unset, .unset] [(Value.int (255 : Int32)), (Value.int x4)]))
    refine own_iand X0 hx hby at_82 ?_
    show own_G p e below s _ _ _ (s₁.setTop (mkF m 83 #[.val (Value.int x0), .val (Value.int x1), .val (Value.int x2), .val (Value.int x3), .val (Value.int x4), .val (Value.int x5), .val (Value.int (x0 &&& (127 : Int32))), .val (Value.int (((x0.toUInt32 >>> ((7 : Int32) &&& 31).toUInt32).toInt32) &&& (3 : Int32))), .val (Value.int cl), .val (Value.int (x1 &&& (1073741823 : Int32))), .val (Value.int (x1 &&& (1073741823 : Int32))), .val (Value.int (((x1 &&& (1073741823 : Int32)) + (1 : Int32)) + (x3 &&& (127 : Int32)))), .val (Value.int (((((x1 &&& (1073741823 : Int32)) + (1 : Int32)) + (x3 &&& (127 : Int32))) + (1 : Int32)) + (((x3.toUInt32 >>> ((7 : Int32) &&& 31).toUInt32).toInt32) &&& (127 : Int32)))), .val (Value.int (((((((x1 &&& (1073741823 : Int32)) + (1 : Int32)) + (x3 &&& (127 : Int32))) + (1 : Int32)) + (((x3.toUInt32 >>> ((7 : Int32) &&& 31).toUInt32).toInt32) &&& (127 : Int32))) + (1 : Int32)) + (x2 &&& (255 : Int32)))), .unset, .unset, .unset, .unset, .unset, .unset, .unset, .unset, .unset, .unset, .unset, .unset] [(Value.int (x4 &&& (255 : Int32)))]))
    refine own_iload X0 hx hby at_83 rfl ?_
    show own_G p e below s _ _ _ (s₁.setTop (mkF m 85 #[.val (Value.int x0), .val (Value.int x1), .val (Value.int x2), .val (Value.int x3), .val (Value.int x4), .val (Value.int x5), .val (Value.int (x0 &&& (127 : Int32))), .val (Value.int (((x0.toUInt32 >>> ((7 : Int32) &&& 31).toUInt32).toInt32) &&& (3 : Int32))), .val (Value.int cl), .val (Value.int (x1 &&& (1073741823 : Int32))), .val (Value.int (x1 &&& (1073741823 : Int32))), .val (Value.int (((x1 &&& (1073741823 : Int32)) + (1 : Int32)) + (x3 &&& (127 : Int32)))), .val (Value.int (((((x1 &&& (1073741823 : Int32)) + (1 : Int32)) + (x3 &&& (127 : Int32))) + (1 : Int32)) + (((x3.toUInt32 >>> ((7 : Int32) &&& 31).toUInt32).toInt32) &&& (127 : Int32)))), .val (Value.int (((((((x1 &&& (1073741823 : Int32)) + (1 : Int32)) + (x3 &&& (127 : Int32))) + (1 : Int32)) + (((x3.toUInt32 >>> ((7 : Int32) &&& 31).toUInt32).toInt32) &&& (127 : Int32))) + (1 : Int32)) + (x2 &&& (255 : Int32)))), .unset, .unset, .unset, .unset, .unset, .unset, .unset, .unset, .unset, .unset, .unset, .unset] [(Value.int (x0 &&& (127 : Int32))), (Value.int (x4 &&& (255 : Int32)))]))
    refine own_iconst X0 hx hby at_85 ?_
    show own_G p e below s _ _ _ (s₁.setTop (mkF m 86 #[.val (Value.int x0), .val (Value.int x1), .val (Value.int x2), .val (Value.int x3), .val (Value.int x4), .val (Value.int x5), .val (Value.int (x0 &&& (127 : Int32))), .val (Value.int (((x0.toUInt32 >>> ((7 : Int32) &&& 31).toUInt32).toInt32) &&& (3 : Int32))), .val (Value.int cl), .val (Value.int (x1 &&& (1073741823 : Int32))), .val (Value.int (x1 &&& (1073741823 : Int32))), .val (Value.int (((x1 &&& (1073741823 : Int32)) + (1 : Int32)) + (x3 &&& (127 : Int32)))), .val (Value.int (((((x1 &&& (1073741823 : Int32)) + (1 : Int32)) + (x3 &&& (127 : Int32))) + (1 : Int32)) + (((x3.toUInt32 >>> ((7 : Int32) &&& 31).toUInt32).toInt32) &&& (127 : Int32)))), .val (Value.int (((((((x1 &&& (1073741823 : Int32)) + (1 : Int32)) + (x3 &&& (127 : Int32))) + (1 : Int32)) + (((x3.toUInt32 >>> ((7 : Int32) &&& 31).toUInt32).toInt32) &&& (127 : Int32))) + (1 : Int32)) + (x2 &&& (255 : Int32)))), .unset, .unset, .unset, .unset, .unset, .unset, .unset, .unset, .unset, .unset, .unset, .unset] [(Value.int (1 : Int32)), (Value.int (x0 &&& (127 : Int32))), (Value.int (x4 &&& (255 : Int32)))]))
    refine own_iadd X0 hx hby at_86 ?_
    show own_G p e below s _ _ _ (s₁.setTop (mkF m 87 #[.val (Value.int x0), .val (Value.int x1), .val (Value.int x2), .val (Value.int x3), .val (Value.int x4), .val (Value.int x5), .val (Value.int (x0 &&& (127 : Int32))), .val (Value.int (((x0.toUInt32 >>> ((7 : Int32) &&& 31).toUInt32).toInt32) &&& (3 : Int32))), .val (Value.int cl), .val (Value.int (x1 &&& (1073741823 : Int32))), .val (Value.int (x1 &&& (1073741823 : Int32))), .val (Value.int (((x1 &&& (1073741823 : Int32)) + (1 : Int32)) + (x3 &&& (127 : Int32)))), .val (Value.int (((((x1 &&& (1073741823 : Int32)) + (1 : Int32)) + (x3 &&& (127 : Int32))) + (1 : Int32)) + (((x3.toUInt32 >>> ((7 : Int32) &&& 31).toUInt32).toInt32) &&& (127 : Int32)))), .val (Value.int (((((((x1 &&& (1073741823 : Int32)) + (1 : Int32)) + (x3 &&& (127 : Int32))) + (1 : Int32)) + (((x3.toUInt32 >>> ((7 : Int32) &&& 31).toUInt32).toInt32) &&& (127 : Int32))) + (1 : Int32)) + (x2 &&& (255 : Int32)))), .unset, .unset, .unset, .unset, .unset, .unset, .unset, .unset, .unset, .unset, .unset, .unset] [(Value.int ((x0 &&& (127 : Int32)) + (1 : Int32))), (Value.int (x4 &&& (255 : Int32)))]))
    refine own_irem X0 hx hby at_87 (own_wp1 (c_and x0 (127 : Int32) (by decide)).1 (c_and x0 (127 : Int32) (by decide)).2).2 ?_
    show own_G p e below s _ _ _ (s₁.setTop (mkF m 88 #[.val (Value.int x0), .val (Value.int x1), .val (Value.int x2), .val (Value.int x3), .val (Value.int x4), .val (Value.int x5), .val (Value.int (x0 &&& (127 : Int32))), .val (Value.int (((x0.toUInt32 >>> ((7 : Int32) &&& 31).toUInt32).toInt32) &&& (3 : Int32))), .val (Value.int cl), .val (Value.int (x1 &&& (1073741823 : Int32))), .val (Value.int (x1 &&& (1073741823 : Int32))), .val (Value.int (((x1 &&& (1073741823 : Int32)) + (1 : Int32)) + (x3 &&& (127 : Int32)))), .val (Value.int (((((x1 &&& (1073741823 : Int32)) + (1 : Int32)) + (x3 &&& (127 : Int32))) + (1 : Int32)) + (((x3.toUInt32 >>> ((7 : Int32) &&& 31).toUInt32).toInt32) &&& (127 : Int32)))), .val (Value.int (((((((x1 &&& (1073741823 : Int32)) + (1 : Int32)) + (x3 &&& (127 : Int32))) + (1 : Int32)) + (((x3.toUInt32 >>> ((7 : Int32) &&& 31).toUInt32).toInt32) &&& (127 : Int32))) + (1 : Int32)) + (x2 &&& (255 : Int32)))), .unset, .unset, .unset, .unset, .unset, .unset, .unset, .unset, .unset, .unset, .unset, .unset] [(Value.int ((x4 &&& (255 : Int32)) % ((x0 &&& (127 : Int32)) + (1 : Int32))))]))
    refine own_istore X0 hx hby at_88 (l' := #[.val (Value.int x0), .val (Value.int x1), .val (Value.int x2), .val (Value.int x3), .val (Value.int x4), .val (Value.int x5), .val (Value.int (x0 &&& (127 : Int32))), .val (Value.int (((x0.toUInt32 >>> ((7 : Int32) &&& 31).toUInt32).toInt32) &&& (3 : Int32))), .val (Value.int cl), .val (Value.int (x1 &&& (1073741823 : Int32))), .val (Value.int (x1 &&& (1073741823 : Int32))), .val (Value.int (((x1 &&& (1073741823 : Int32)) + (1 : Int32)) + (x3 &&& (127 : Int32)))), .val (Value.int (((((x1 &&& (1073741823 : Int32)) + (1 : Int32)) + (x3 &&& (127 : Int32))) + (1 : Int32)) + (((x3.toUInt32 >>> ((7 : Int32) &&& 31).toUInt32).toInt32) &&& (127 : Int32)))), .val (Value.int (((((((x1 &&& (1073741823 : Int32)) + (1 : Int32)) + (x3 &&& (127 : Int32))) + (1 : Int32)) + (((x3.toUInt32 >>> ((7 : Int32) &&& 31).toUInt32).toInt32) &&& (127 : Int32))) + (1 : Int32)) + (x2 &&& (255 : Int32)))), .val (Value.int ((x4 &&& (255 : Int32)) % ((x0 &&& (127 : Int32)) + (1 : Int32)))), .unset, .unset, .unset, .unset, .unset, .unset, .unset, .unset, .unset, .unset, .unset]) rfl ?_
    show own_G p e below s _ _ _ (s₁.setTop (mkF m 90 #[.val (Value.int x0), .val (Value.int x1), .val (Value.int x2), .val (Value.int x3), .val (Value.int x4), .val (Value.int x5), .val (Value.int (x0 &&& (127 : Int32))), .val (Value.int (((x0.toUInt32 >>> ((7 : Int32) &&& 31).toUInt32).toInt32) &&& (3 : Int32))), .val (Value.int cl), .val (Value.int (x1 &&& (1073741823 : Int32))), .val (Value.int (x1 &&& (1073741823 : Int32))), .val (Value.int (((x1 &&& (1073741823 : Int32)) + (1 : Int32)) + (x3 &&& (127 : Int32)))), .val (Value.int (((((x1 &&& (1073741823 : Int32)) + (1 : Int32)) + (x3 &&& (127 : Int32))) + (1 : Int32)) + (((x3.toUInt32 >>> ((7 : Int32) &&& 31).toUInt32).toInt32) &&& (127 : Int32)))), .val (Value.int (((((((x1 &&& (1073741823 : Int32)) + (1 : Int32)) + (x3 &&& (127 : Int32))) + (1 : Int32)) + (((x3.toUInt32 >>> ((7 : Int32) &&& 31).toUInt32).toInt32) &&& (127 : Int32))) + (1 : Int32)) + (x2 &&& (255 : Int32)))), .val (Value.int ((x4 &&& (255 : Int32)) % ((x0 &&& (127 : Int32)) + (1 : Int32)))), .unset, .unset, .unset, .unset, .unset, .unset, .unset, .unset, .unset, .unset, .unset] []))
    refine own_iload X0 hx hby at_90 rfl ?_
    show own_G p e below s _ _ _ (s₁.setTop (mkF m 92 #[.val (Value.int x0), .val (Value.int x1), .val (Value.int x2), .val (Value.int x3), .val (Value.int x4), .val (Value.int x5), .val (Value.int (x0 &&& (127 : Int32))), .val (Value.int (((x0.toUInt32 >>> ((7 : Int32) &&& 31).toUInt32).toInt32) &&& (3 : Int32))), .val (Value.int cl), .val (Value.int (x1 &&& (1073741823 : Int32))), .val (Value.int (x1 &&& (1073741823 : Int32))), .val (Value.int (((x1 &&& (1073741823 : Int32)) + (1 : Int32)) + (x3 &&& (127 : Int32)))), .val (Value.int (((((x1 &&& (1073741823 : Int32)) + (1 : Int32)) + (x3 &&& (127 : Int32))) + (1 : Int32)) + (((x3.toUInt32 >>> ((7 : Int32) &&& 31).toUInt32).toInt32) &&& (127 : Int32)))), .val (Value.int (((((((x1 &&& (1073741823 : Int32)) + (1 : Int32)) + (x3 &&& (127 : Int32))) + (1 : Int32)) + (((x3.toUInt32 >>> ((7 : Int32) &&& 31).toUInt32).toInt32) &&& (127 : Int32))) + (1 : Int32)) + (x2 &&& (255 : Int32)))), .val (Value.int ((x4 &&& (255 : Int32)) % ((x0 &&& (127 : Int32)) + (1 : Int32)))), .unset, .unset, .unset, .unset, .unset, .unset, .unset, .unset, .unset, .unset, .unset] [(Value.int x4)]))
    refine own_bipush X0 hx hby at_92 ?_
    show own_G p e below s _ _ _ (s₁.setTop (mkF m 94 #[.val (Value.int x0), .val (Value.int x1), .val (Value.int x2), .val (Value.int x3), .val (Value.int x4), .val (Value.int x5), .val (Value.int (x0 &&& (127 : Int32))), .val (Value.int (((x0.toUInt32 >>> ((7 : Int32) &&& 31).toUInt32).toInt32) &&& (3 : Int32))), .val (Value.int cl), .val (Value.int (x1 &&& (1073741823 : Int32))), .val (Value.int (x1 &&& (1073741823 : Int32))), .val (Value.int (((x1 &&& (1073741823 : Int32)) + (1 : Int32)) + (x3 &&& (127 : Int32)))), .val (Value.int (((((x1 &&& (1073741823 : Int32)) + (1 : Int32)) + (x3 &&& (127 : Int32))) + (1 : Int32)) + (((x3.toUInt32 >>> ((7 : Int32) &&& 31).toUInt32).toInt32) &&& (127 : Int32)))), .val (Value.int (((((((x1 &&& (1073741823 : Int32)) + (1 : Int32)) + (x3 &&& (127 : Int32))) + (1 : Int32)) + (((x3.toUInt32 >>> ((7 : Int32) &&& 31).toUInt32).toInt32) &&& (127 : Int32))) + (1 : Int32)) + (x2 &&& (255 : Int32)))), .val (Value.int ((x4 &&& (255 : Int32)) % ((x0 &&& (127 : Int32)) + (1 : Int32)))), .unset, .unset, .unset, .unset, .unset, .unset, .unset, .unset, .unset, .unset, .unset] [(Value.int (8 : Int32)), (Value.int x4)]))
    refine own_iushr X0 hx hby at_94 ?_
    show own_G p e below s _ _ _ (s₁.setTop (mkF m 95 #[.val (Value.int x0), .val (Value.int x1), .val (Value.int x2), .val (Value.int x3), .val (Value.int x4), .val (Value.int x5), .val (Value.int (x0 &&& (127 : Int32))), .val (Value.int (((x0.toUInt32 >>> ((7 : Int32) &&& 31).toUInt32).toInt32) &&& (3 : Int32))), .val (Value.int cl), .val (Value.int (x1 &&& (1073741823 : Int32))), .val (Value.int (x1 &&& (1073741823 : Int32))), .val (Value.int (((x1 &&& (1073741823 : Int32)) + (1 : Int32)) + (x3 &&& (127 : Int32)))), .val (Value.int (((((x1 &&& (1073741823 : Int32)) + (1 : Int32)) + (x3 &&& (127 : Int32))) + (1 : Int32)) + (((x3.toUInt32 >>> ((7 : Int32) &&& 31).toUInt32).toInt32) &&& (127 : Int32)))), .val (Value.int (((((((x1 &&& (1073741823 : Int32)) + (1 : Int32)) + (x3 &&& (127 : Int32))) + (1 : Int32)) + (((x3.toUInt32 >>> ((7 : Int32) &&& 31).toUInt32).toInt32) &&& (127 : Int32))) + (1 : Int32)) + (x2 &&& (255 : Int32)))), .val (Value.int ((x4 &&& (255 : Int32)) % ((x0 &&& (127 : Int32)) + (1 : Int32)))), .unset, .unset, .unset, .unset, .unset, .unset, .unset, .unset, .unset, .unset, .unset] [(Value.int ((x4.toUInt32 >>> ((8 : Int32) &&& 31).toUInt32).toInt32))]))
    refine own_sipush X0 hx hby at_95 ?_
    show own_G p e below s _ _ _ (s₁.setTop (mkF m 98 #[.val (Value.int x0), .val (Value.int x1), .val (Value.int x2), .val (Value.int x3), .val (Value.int x4), .val (Value.int x5), .val (Value.int (x0 &&& (127 : Int32))), .val (Value.int (((x0.toUInt32 >>> ((7 : Int32) &&& 31).toUInt32).toInt32) &&& (3 : Int32))), .val (Value.int cl), .val (Value.int (x1 &&& (1073741823 : Int32))), .val (Value.int (x1 &&& (1073741823 : Int32))), .val (Value.int (((x1 &&& (1073741823 : Int32)) + (1 : Int32)) + (x3 &&& (127 : Int32)))), .val (Value.int (((((x1 &&& (1073741823 : Int32)) + (1 : Int32)) + (x3 &&& (127 : Int32))) + (1 : Int32)) + (((x3.toUInt32 >>> ((7 : Int32) &&& 31).toUInt32).toInt32) &&& (127 : Int32)))), .val (Value.int (((((((x1 &&& (1073741823 : Int32)) + (1 : Int32)) + (x3 &&& (127 : Int32))) + (1 : Int32)) + (((x3.toUInt32 >>> ((7 : Int32) &&& 31).toUInt32).toInt32) &&& (127 : Int32))) + (1 : Int32)) + (x2 &&& (255 : Int32)))), .val (Value.int ((x4 &&& (255 : Int32)) % ((x0 &&& (127 : Int32)) + (1 : Int32)))), .unset, .unset, .unset, .unset, .unset, .unset, .unset, .unset, .unset, .unset, .unset] [(Value.int (255 : Int32)), (Value.int ((x4.toUInt32 >>> ((8 : Int32) &&& 31).toUInt32).toInt32))]))
    refine own_iand X0 hx hby at_98 ?_
    show own_G p e below s _ _ _ (s₁.setTop (mkF m 99 #[.val (Value.int x0), .val (Value.int x1), .val (Value.int x2), .val (Value.int x3), .val (Value.int x4), .val (Value.int x5), .val (Value.int (x0 &&& (127 : Int32))), .val (Value.int (((x0.toUInt32 >>> ((7 : Int32) &&& 31).toUInt32).toInt32) &&& (3 : Int32))), .val (Value.int cl), .val (Value.int (x1 &&& (1073741823 : Int32))), .val (Value.int (x1 &&& (1073741823 : Int32))), .val (Value.int (((x1 &&& (1073741823 : Int32)) + (1 : Int32)) + (x3 &&& (127 : Int32)))), .val (Value.int (((((x1 &&& (1073741823 : Int32)) + (1 : Int32)) + (x3 &&& (127 : Int32))) + (1 : Int32)) + (((x3.toUInt32 >>> ((7 : Int32) &&& 31).toUInt32).toInt32) &&& (127 : Int32)))), .val (Value.int (((((((x1 &&& (1073741823 : Int32)) + (1 : Int32)) + (x3 &&& (127 : Int32))) + (1 : Int32)) + (((x3.toUInt32 >>> ((7 : Int32) &&& 31).toUInt32).toInt32) &&& (127 : Int32))) + (1 : Int32)) + (x2 &&& (255 : Int32)))), .val (Value.int ((x4 &&& (255 : Int32)) % ((x0 &&& (127 : Int32)) + (1 : Int32)))), .unset, .unset, .unset, .unset, .unset, .unset, .unset, .unset, .unset, .unset, .unset] [(Value.int (((x4.toUInt32 >>> ((8 : Int32) &&& 31).toUInt32).toInt32) &&& (255 : Int32)))]))
    refine own_iload X0 hx hby at_99 rfl ?_
    show own_G p e below s _ _ _ (s₁.setTop (mkF m 101 #[.val (Value.int x0), .val (Value.int x1), .val (Value.int x2), .val (Value.int x3), .val (Value.int x4), .val (Value.int x5), .val (Value.int (x0 &&& (127 : Int32))), .val (Value.int (((x0.toUInt32 >>> ((7 : Int32) &&& 31).toUInt32).toInt32) &&& (3 : Int32))), .val (Value.int cl), .val (Value.int (x1 &&& (1073741823 : Int32))), .val (Value.int (x1 &&& (1073741823 : Int32))), .val (Value.int (((x1 &&& (1073741823 : Int32)) + (1 : Int32)) + (x3 &&& (127 : Int32)))), .val (Value.int (((((x1 &&& (1073741823 : Int32)) + (1 : Int32)) + (x3 &&& (127 : Int32))) + (1 : Int32)) + (((x3.toUInt32 >>> ((7 : Int32) &&& 31).toUInt32).toInt32) &&& (127 : Int32)))), .val (Value.int (((((((x1 &&& (1073741823 : Int32)) + (1 : Int32)) + (x3 &&& (127 : Int32))) + (1 : Int32)) + (((x3.toUInt32 >>> ((7 : Int32) &&& 31).toUInt32).toInt32) &&& (127 : Int32))) + (1 : Int32)) + (x2 &&& (255 : Int32)))), .val (Value.int ((x4 &&& (255 : Int32)) % ((x0 &&& (127 : Int32)) + (1 : Int32)))), .unset, .unset, .unset, .unset, .unset, .unset, .unset, .unset, .unset, .unset, .unset] [(Value.int (x0 &&& (127 : Int32))), (Value.int (((x4.toUInt32 >>> ((8 : Int32) &&& 31).toUInt32).toInt32) &&& (255 : Int32)))]))
    refine own_iconst X0 hx hby at_101 ?_
    show own_G p e below s _ _ _ (s₁.setTop (mkF m 102 #[.val (Value.int x0), .val (Value.int x1), .val (Value.int x2), .val (Value.int x3), .val (Value.int x4), .val (Value.int x5), .val (Value.int (x0 &&& (127 : Int32))), .val (Value.int (((x0.toUInt32 >>> ((7 : Int32) &&& 31).toUInt32).toInt32) &&& (3 : Int32))), .val (Value.int cl), .val (Value.int (x1 &&& (1073741823 : Int32))), .val (Value.int (x1 &&& (1073741823 : Int32))), .val (Value.int (((x1 &&& (1073741823 : Int32)) + (1 : Int32)) + (x3 &&& (127 : Int32)))), .val (Value.int (((((x1 &&& (1073741823 : Int32)) + (1 : Int32)) + (x3 &&& (127 : Int32))) + (1 : Int32)) + (((x3.toUInt32 >>> ((7 : Int32) &&& 31).toUInt32).toInt32) &&& (127 : Int32)))), .val (Value.int (((((((x1 &&& (1073741823 : Int32)) + (1 : Int32)) + (x3 &&& (127 : Int32))) + (1 : Int32)) + (((x3.toUInt32 >>> ((7 : Int32) &&& 31).toUInt32).toInt32) &&& (127 : Int32))) + (1 : Int32)) + (x2 &&& (255 : Int32)))), .val (Value.int ((x4 &&& (255 : Int32)) % ((x0 &&& (127 : Int32)) + (1 : Int32)))), .unset, .unset, .unset, .unset, .unset, .unset, .unset, .unset, .unset, .unset, .unset] [(Value.int (1 : Int32)), (Value.int (x0 &&& (127 : Int32))), (Value.int (((x4.toUInt32 >>> ((8 : Int32) &&& 31).toUInt32).toInt32) &&& (255 : Int32)))]))
    refine own_iadd X0 hx hby at_102 ?_
    show own_G p e below s _ _ _ (s₁.setTop (mkF m 103 #[.val (Value.int x0), .val (Value.int x1), .val (Value.int x2), .val (Value.int x3), .val (Value.int x4), .val (Value.int x5), .val (Value.int (x0 &&& (127 : Int32))), .val (Value.int (((x0.toUInt32 >>> ((7 : Int32) &&& 31).toUInt32).toInt32) &&& (3 : Int32))), .val (Value.int cl), .val (Value.int (x1 &&& (1073741823 : Int32))), .val (Value.int (x1 &&& (1073741823 : Int32))), .val (Value.int (((x1 &&& (1073741823 : Int32)) + (1 : Int32)) + (x3 &&& (127 : Int32)))), .val (Value.int (((((x1 &&& (1073741823 : Int32)) + (1 : Int32)) + (x3 &&& (127 : Int32))) + (1 : Int32)) + (((x3.toUInt32 >>> ((7 : Int32) &&& 31).toUInt32).toInt32) &&& (127 : Int32)))), .val (Value.int (((((((x1 &&& (1073741823 : Int32)) + (1 : Int32)) + (x3 &&& (127 : Int32))) + (1 : Int32)) + (((x3.toUInt32 >>> ((7 : Int32) &&& 31).toUInt32).toInt32) &&& (127 : Int32))) + (1 : Int32)) + (x2 &&& (255 : Int32)))), .val (Value.int ((x4 &&& (255 : Int32)) % ((x0 &&& (127 : Int32)) + (1 : Int32)))), .unset, .unset, .unset, .unset, .unset, .unset, .unset, .unset, .unset, .unset, .unset] [(Value.int ((x0 &&& (127 : Int32)) + (1 : Int32))), (Value.int (((x4.toUInt32 >>> ((8 : Int32) &&& 31).toUInt32).toInt32) &&& (255 : Int32)))]))
    refine own_irem X0 hx hby at_103 (own_wp1 (c_and x0 (127 : Int32) (by decide)).1 (c_and x0 (127 : Int32) (by decide)).2).2 ?_
    show own_G p e below s _ _ _ (s₁.setTop (mkF m 104 #[.val (Value.int x0), .val (Value.int x1), .val (Value.int x2), .val (Value.int x3), .val (Value.int x4), .val (Value.int x5), .val (Value.int (x0 &&& (127 : Int32))), .val (Value.int (((x0.toUInt32 >>> ((7 : Int32) &&& 31).toUInt32).toInt32) &&& (3 : Int32))), .val (Value.int cl), .val (Value.int (x1 &&& (1073741823 : Int32))), .val (Value.int (x1 &&& (1073741823 : Int32))), .val (Value.int (((x1 &&& (1073741823 : Int32)) + (1 : Int32)) + (x3 &&& (127 : Int32)))), .val (Value.int (((((x1 &&& (1073741823 : Int32)) + (1 : Int32)) + (x3 &&& (127 : Int32))) + (1 : Int32)) + (((x3.toUInt32 >>> ((7 : Int32) &&& 31).toUInt32).toInt32) &&& (127 : Int32)))), .val (Value.int (((((((x1 &&& (1073741823 : Int32)) + (1 : Int32)) + (x3 &&& (127 : Int32))) + (1 : Int32)) + (((x3.toUInt32 >>> ((7 : Int32) &&& 31).toUInt32).toInt32) &&& (127 : Int32))) + (1 : Int32)) + (x2 &&& (255 : Int32)))), .val (Value.int ((x4 &&& (255 : Int32)) % ((x0 &&& (127 : Int32)) + (1 : Int32)))), .unset, .unset, .unset, .unset, .unset, .unset, .unset, .unset, .unset, .unset, .unset] [(Value.int ((((x4.toUInt32 >>> ((8 : Int32) &&& 31).toUInt32).toInt32) &&& (255 : Int32)) % ((x0 &&& (127 : Int32)) + (1 : Int32))))]))
    refine own_istore X0 hx hby at_104 (l' := #[.val (Value.int x0), .val (Value.int x1), .val (Value.int x2), .val (Value.int x3), .val (Value.int x4), .val (Value.int x5), .val (Value.int (x0 &&& (127 : Int32))), .val (Value.int (((x0.toUInt32 >>> ((7 : Int32) &&& 31).toUInt32).toInt32) &&& (3 : Int32))), .val (Value.int cl), .val (Value.int (x1 &&& (1073741823 : Int32))), .val (Value.int (x1 &&& (1073741823 : Int32))), .val (Value.int (((x1 &&& (1073741823 : Int32)) + (1 : Int32)) + (x3 &&& (127 : Int32)))), .val (Value.int (((((x1 &&& (1073741823 : Int32)) + (1 : Int32)) + (x3 &&& (127 : Int32))) + (1 : Int32)) + (((x3.toUInt32 >>> ((7 : Int32) &&& 31).toUInt32).toInt32) &&& (127 : Int32)))), .val (Value.int (((((((x1 &&& (1073741823 : Int32)) + (1 : Int32)) + (x3 &&& (127 : Int32))) + (1 : Int32)) + (((x3.toUInt32 >>> ((7 : Int32) &&& 31).toUInt32).toInt32) &&& (127 : Int32))) + (1 : Int32)) + (x2 &&& (255 : Int32)))), .val (Value.int ((x4 &&& (255 : Int32)) % ((x0 &&& (127 : Int32)) + (1 : Int32)))), .val (Value.int ((((x4.toUInt32 >>> ((8 : Int32) &&& 31).toUInt32).toInt32) &&& (255 : Int32)) % ((x0 &&& (127 : Int32)) + (1 : Int32)))), .unset, .unset, .unset, .unset, .unset, .unset, .unset, .unset, .unset, .unset]) rfl ?_
    show own_G p e below s _ _ _ (s₁.setTop (mkF m 106 #[.val (Value.int x0), .val (Value.int x1), .val (Value.int x2), .val (Value.int x3), .val (Value.int x4), .val (Value.int x5), .val (Value.int (x0 &&& (127 : Int32))), .val (Value.int (((x0.toUInt32 >>> ((7 : Int32) &&& 31).toUInt32).toInt32) &&& (3 : Int32))), .val (Value.int cl), .val (Value.int (x1 &&& (1073741823 : Int32))), .val (Value.int (x1 &&& (1073741823 : Int32))), .val (Value.int (((x1 &&& (1073741823 : Int32)) + (1 : Int32)) + (x3 &&& (127 : Int32)))), .val (Value.int (((((x1 &&& (1073741823 : Int32)) + (1 : Int32)) + (x3 &&& (127 : Int32))) + (1 : Int32)) + (((x3.toUInt32 >>> ((7 : Int32) &&& 31).toUInt32).toInt32) &&& (127 : Int32)))), .val (Value.int (((((((x1 &&& (1073741823 : Int32)) + (1 : Int32)) + (x3 &&& (127 : Int32))) + (1 : Int32)) + (((x3.toUInt32 >>> ((7 : Int32) &&& 31).toUInt32).toInt32) &&& (127 : Int32))) + (1 : Int32)) + (x2 &&& (255 : Int32)))), .val (Value.int ((x4 &&& (255 : Int32)) % ((x0 &&& (127 : Int32)) + (1 : Int32)))), .val (Value.int ((((x4.toUInt32 >>> ((8 : Int32) &&& 31).toUInt32).toInt32) &&& (255 : Int32)) % ((x0 &&& (127 : Int32)) + (1 : Int32)))), .unset, .unset, .unset, .unset, .unset, .unset, .unset, .unset, .unset, .unset] []))
    refine own_iload X0 hx hby at_106 rfl ?_
    show own_G p e below s _ _ _ (s₁.setTop (mkF m 108 #[.val (Value.int x0), .val (Value.int x1), .val (Value.int x2), .val (Value.int x3), .val (Value.int x4), .val (Value.int x5), .val (Value.int (x0 &&& (127 : Int32))), .val (Value.int (((x0.toUInt32 >>> ((7 : Int32) &&& 31).toUInt32).toInt32) &&& (3 : Int32))), .val (Value.int cl), .val (Value.int (x1 &&& (1073741823 : Int32))), .val (Value.int (x1 &&& (1073741823 : Int32))), .val (Value.int (((x1 &&& (1073741823 : Int32)) + (1 : Int32)) + (x3 &&& (127 : Int32)))), .val (Value.int (((((x1 &&& (1073741823 : Int32)) + (1 : Int32)) + (x3 &&& (127 : Int32))) + (1 : Int32)) + (((x3.toUInt32 >>> ((7 : Int32) &&& 31).toUInt32).toInt32) &&& (127 : Int32)))), .val (Value.int (((((((x1 &&& (1073741823 : Int32)) + (1 : Int32)) + (x3 &&& (127 : Int32))) + (1 : Int32)) + (((x3.toUInt32 >>> ((7 : Int32) &&& 31).toUInt32).toInt32) &&& (127 : Int32))) + (1 : Int32)) + (x2 &&& (255 : Int32)))), .val (Value.int ((x4 &&& (255 : Int32)) % ((x0 &&& (127 : Int32)) + (1 : Int32)))), .val (Value.int ((((x4.toUInt32 >>> ((8 : Int32) &&& 31).toUInt32).toInt32) &&& (255 : Int32)) % ((x0 &&& (127 : Int32)) + (1 : Int32)))), .unset, .unset, .unset, .unset, .unset, .unset, .unset, .unset, .unset, .unset] [(Value.int x4)]))
    refine own_bipush X0 hx hby at_108 ?_
    show own_G p e below s _ _ _ (s₁.setTop (mkF m 110 #[.val (Value.int x0), .val (Value.int x1), .val (Value.int x2), .val (Value.int x3), .val (Value.int x4), .val (Value.int x5), .val (Value.int (x0 &&& (127 : Int32))), .val (Value.int (((x0.toUInt32 >>> ((7 : Int32) &&& 31).toUInt32).toInt32) &&& (3 : Int32))), .val (Value.int cl), .val (Value.int (x1 &&& (1073741823 : Int32))), .val (Value.int (x1 &&& (1073741823 : Int32))), .val (Value.int (((x1 &&& (1073741823 : Int32)) + (1 : Int32)) + (x3 &&& (127 : Int32)))), .val (Value.int (((((x1 &&& (1073741823 : Int32)) + (1 : Int32)) + (x3 &&& (127 : Int32))) + (1 : Int32)) + (((x3.toUInt32 >>> ((7 : Int32) &&& 31).toUInt32).toInt32) &&& (127 : Int32)))), .val (Value.int (((((((x1 &&& (1073741823 : Int32)) + (1 : Int32)) + (x3 &&& (127 : Int32))) + (1 : Int32)) + (((x3.toUInt32 >>> ((7 : Int32) &&& 31).toUInt32).toInt32) &&& (127 : Int32))) + (1 : Int32)) + (x2 &&& (255 : Int32)))), .val (Value.int ((x4 &&& (255 : Int32)) % ((x0 &&& (127 : Int32)) + (1 : Int32)))), .val (Value.int ((((x4.toUInt32 >>> ((8 : Int32) &&& 31).toUInt32).toInt32) &&& (255 : Int32)) % ((x0 &&& (127 : Int32)) + (1 : Int32)))), .unset, .unset, .unset, .unset, .unset, .unset, .unset, .unset, .unset, .unset] [(Value.int (16 : Int32)), (Value.int x4)]))
    refine own_iushr X0 hx hby at_110 ?_
    show own_G p e below s _ _ _ (s₁.setTop (mkF m 111 #[.val (Value.int x0), .val (Value.int x1), .val (Value.int x2), .val (Value.int x3), .val (Value.int x4), .val (Value.int x5), .val (Value.int (x0 &&& (127 : Int32))), .val (Value.int (((x0.toUInt32 >>> ((7 : Int32) &&& 31).toUInt32).toInt32) &&& (3 : Int32))), .val (Value.int cl), .val (Value.int (x1 &&& (1073741823 : Int32))), .val (Value.int (x1 &&& (1073741823 : Int32))), .val (Value.int (((x1 &&& (1073741823 : Int32)) + (1 : Int32)) + (x3 &&& (127 : Int32)))), .val (Value.int (((((x1 &&& (1073741823 : Int32)) + (1 : Int32)) + (x3 &&& (127 : Int32))) + (1 : Int32)) + (((x3.toUInt32 >>> ((7 : Int32) &&& 31).toUInt32).toInt32) &&& (127 : Int32)))), .val (Value.int (((((((x1 &&& (1073741823 : Int32)) + (1 : Int32)) + (x3 &&& (127 : Int32))) + (1 : Int32)) + (((x3.toUInt32 >>> ((7 : Int32) &&& 31).toUInt32).toInt32) &&& (127 : Int32))) + (1 : Int32)) + (x2 &&& (255 : Int32)))), .val (Value.int ((x4 &&& (255 : Int32)) % ((x0 &&& (127 : Int32)) + (1 : Int32)))), .val (Value.int ((((x4.toUInt32 >>> ((8 : Int32) &&& 31).toUInt32).toInt32) &&& (255 : Int32)) % ((x0 &&& (127 : Int32)) + (1 : Int32)))), .unset, .unset, .unset, .unset, .unset, .unset, .unset, .unset, .unset, .unset] [(Value.int ((x4.toUInt32 >>> ((16 : Int32) &&& 31).toUInt32).toInt32))]))
    refine own_sipush X0 hx hby at_111 ?_
    show own_G p e below s _ _ _ (s₁.setTop (mkF m 114 #[.val (Value.int x0), .val (Value.int x1), .val (Value.int x2), .val (Value.int x3), .val (Value.int x4), .val (Value.int x5), .val (Value.int (x0 &&& (127 : Int32))), .val (Value.int (((x0.toUInt32 >>> ((7 : Int32) &&& 31).toUInt32).toInt32) &&& (3 : Int32))), .val (Value.int cl), .val (Value.int (x1 &&& (1073741823 : Int32))), .val (Value.int (x1 &&& (1073741823 : Int32))), .val (Value.int (((x1 &&& (1073741823 : Int32)) + (1 : Int32)) + (x3 &&& (127 : Int32)))), .val (Value.int (((((x1 &&& (1073741823 : Int32)) + (1 : Int32)) + (x3 &&& (127 : Int32))) + (1 : Int32)) + (((x3.toUInt32 >>> ((7 : Int32) &&& 31).toUInt32).toInt32) &&& (127 : Int32)))), .val (Value.int (((((((x1 &&& (1073741823 : Int32)) + (1 : Int32)) + (x3 &&& (127 : Int32))) + (1 : Int32)) + (((x3.toUInt32 >>> ((7 : Int32) &&& 31).toUInt32).toInt32) &&& (127 : Int32))) + (1 : Int32)) + (x2 &&& (255 : Int32)))), .val (Value.int ((x4 &&& (255 : Int32)) % ((x0 &&& (127 : Int32)) + (1 : Int32)))), .val (Value.int ((((x4.toUInt32 >>> ((8 : Int32) &&& 31).toUInt32).toInt32) &&& (255 : Int32)) % ((x0 &&& (127 : Int32)) + (1 : Int32)))), .unset, .unset, .unset, .unset, .unset, .unset, .unset, .unset, .unset, .unset] [(Value.int (255 : Int32)), (Value.int ((x4.toUInt32 >>> ((16 : Int32) &&& 31).toUInt32).toInt32))]))
    refine own_iand X0 hx hby at_114 ?_
    show own_G p e below s _ _ _ (s₁.setTop (mkF m 115 #[.val (Value.int x0), .val (Value.int x1), .val (Value.int x2), .val (Value.int x3), .val (Value.int x4), .val (Value.int x5), .val (Value.int (x0 &&& (127 : Int32))), .val (Value.int (((x0.toUInt32 >>> ((7 : Int32) &&& 31).toUInt32).toInt32) &&& (3 : Int32))), .val (Value.int cl), .val (Value.int (x1 &&& (1073741823 : Int32))), .val (Value.int (x1 &&& (1073741823 : Int32))), .val (Value.int (((x1 &&& (1073741823 : Int32)) + (1 : Int32)) + (x3 &&& (127 : Int32)))), .val (Value.int (((((x1 &&& (1073741823 : Int32)) + (1 : Int32)) + (x3 &&& (127 : Int32))) + (1 : Int32)) + (((x3.toUInt32 >>> ((7 : Int32) &&& 31).toUInt32).toInt32) &&& (127 : Int32)))), .val (Value.int (((((((x1 &&& (1073741823 : Int32)) + (1 : Int32)) + (x3 &&& (127 : Int32))) + (1 : Int32)) + (((x3.toUInt32 >>> ((7 : Int32) &&& 31).toUInt32).toInt32) &&& (127 : Int32))) + (1 : Int32)) + (x2 &&& (255 : Int32)))), .val (Value.int ((x4 &&& (255 : Int32)) % ((x0 &&& (127 : Int32)) + (1 : Int32)))), .val (Value.int ((((x4.toUInt32 >>> ((8 : Int32) &&& 31).toUInt32).toInt32) &&& (255 : Int32)) % ((x0 &&& (127 : Int32)) + (1 : Int32)))), .unset, .unset, .unset, .unset, .unset, .unset, .unset, .unset, .unset, .unset] [(Value.int (((x4.toUInt32 >>> ((16 : Int32) &&& 31).toUInt32).toInt32) &&& (255 : Int32)))]))
    refine own_iload X0 hx hby at_115 rfl ?_
    show own_G p e below s _ _ _ (s₁.setTop (mkF m 117 #[.val (Value.int x0), .val (Value.int x1), .val (Value.int x2), .val (Value.int x3), .val (Value.int x4), .val (Value.int x5), .val (Value.int (x0 &&& (127 : Int32))), .val (Value.int (((x0.toUInt32 >>> ((7 : Int32) &&& 31).toUInt32).toInt32) &&& (3 : Int32))), .val (Value.int cl), .val (Value.int (x1 &&& (1073741823 : Int32))), .val (Value.int (x1 &&& (1073741823 : Int32))), .val (Value.int (((x1 &&& (1073741823 : Int32)) + (1 : Int32)) + (x3 &&& (127 : Int32)))), .val (Value.int (((((x1 &&& (1073741823 : Int32)) + (1 : Int32)) + (x3 &&& (127 : Int32))) + (1 : Int32)) + (((x3.toUInt32 >>> ((7 : Int32) &&& 31).toUInt32).toInt32) &&& (127 : Int32)))), .val (Value.int (((((((x1 &&& (1073741823 : Int32)) + (1 : Int32)) + (x3 &&& (127 : Int32))) + (1 : Int32)) + (((x3.toUInt32 >>> ((7 : Int32) &&& 31).toUInt32).toInt32) &&& (127 : Int32))) + (1 : Int32)) + (x2 &&& (255 : Int32)))), .val (Value.int ((x4 &&& (255 : Int32)) % ((x0 &&& (127 : Int32)) + (1 : Int32)))), .val (Value.int ((((x4.toUInt32 >>> ((8 : Int32) &&& 31).toUInt32).toInt32) &&& (255 : Int32)) % ((x0 &&& (127 : Int32)) + (1 : Int32)))), .unset, .unset, .unset, .unset, .unset, .unset, .unset, .unset, .unset, .unset] [(Value.int (x0 &&& (127 : Int32))), (Value.int (((x4.toUInt32 >>> ((16 : Int32) &&& 31).toUInt32).toInt32) &&& (255 : Int32)))]))
    refine own_iconst X0 hx hby at_117 ?_
    show own_G p e below s _ _ _ (s₁.setTop (mkF m 118 #[.val (Value.int x0), .val (Value.int x1), .val (Value.int x2), .val (Value.int x3), .val (Value.int x4), .val (Value.int x5), .val (Value.int (x0 &&& (127 : Int32))), .val (Value.int (((x0.toUInt32 >>> ((7 : Int32) &&& 31).toUInt32).toInt32) &&& (3 : Int32))), .val (Value.int cl), .val (Value.int (x1 &&& (1073741823 : Int32))), .val (Value.int (x1 &&& (1073741823 : Int32))), .val (Value.int (((x1 &&& (1073741823 : Int32)) + (1 : Int32)) + (x3 &&& (127 : Int32)))), .val (Value.int (((((x1 &&& (1073741823 : Int32)) + (1 : Int32)) + (x3 &&& (127 : Int32))) + (1 : Int32)) + (((x3.toUInt32 >>> ((7 : Int32) &&& 31).toUInt32).toInt32) &&& (127 : Int32)))), .val (Value.int (((((((x1 &&& (1073741823 : Int32)) + (1 : Int32)) + (x3 &&& (127 : Int32))) + (1 : Int32)) + (((x3.toUInt32 >>> ((7 : Int32) &&& 31).toUInt32).toInt32) &&& (127 : Int32))) + (1 : Int32)) + (x2 &&& (255 : Int32)))), .val (Value.int ((x4 &&& (255 : Int32)) % ((x0 &&& (127 : Int32)) + (1 : Int32)))), .val (Value.int ((((x4.toUInt32 >>> ((8 : Int32) &&& 31).toUInt32).toInt32) &&& (255 : Int32)) % ((x0 &&& (127 : Int32)) + (1 : Int32)))), .unset, .unset, .unset, .unset, .unset, .unset, .unset, .unset, .unset, .unset] [(Value.int (1 : Int32)), (Value.int (x0 &&& (127 : Int32))), (Value.int (((x4.toUInt32 >>> ((16 : Int32) &&& 31).toUInt32).toInt32) &&& (255 : Int32)))]))
    refine own_iadd X0 hx hby at_118 ?_
    show own_G p e below s _ _ _ (s₁.setTop (mkF m 119 #[.val (Value.int x0), .val (Value.int x1), .val (Value.int x2), .val (Value.int x3), .val (Value.int x4), .val (Value.int x5), .val (Value.int (x0 &&& (127 : Int32))), .val (Value.int (((x0.toUInt32 >>> ((7 : Int32) &&& 31).toUInt32).toInt32) &&& (3 : Int32))), .val (Value.int cl), .val (Value.int (x1 &&& (1073741823 : Int32))), .val (Value.int (x1 &&& (1073741823 : Int32))), .val (Value.int (((x1 &&& (1073741823 : Int32)) + (1 : Int32)) + (x3 &&& (127 : Int32)))), .val (Value.int (((((x1 &&& (1073741823 : Int32)) + (1 : Int32)) + (x3 &&& (127 : Int32))) + (1 : Int32)) + (((x3.toUInt32 >>> ((7 : Int32) &&& 31).toUInt32).toInt32) &&& (127 : Int32)))), .val (Value.int (((((((x1 &&& (1073741823 : Int32)) + (1 : Int32)) + (x3 &&& (127 : Int32))) + (1 : Int32)) + (((x3.toUInt32 >>> ((7 : Int32) &&& 31).toUInt32).toInt32) &&& (127 : Int32))) + (1 : Int32)) + (x2 &&& (255 : Int32)))), .val (Value.int ((x4 &&& (255 : Int32)) % ((x0 &&& (127 : Int32)) + (1 : Int32)))), .val (Value.int ((((x4.toUInt32 >>> ((8 : Int32) &&& 31).toUInt32).toInt32) &&& (255 : Int32)) % ((x0 &&& (127 : Int32)) + (1 : Int32)))), .unset, .unset, .unset, .unset, .unset, .unset, .unset, .unset, .unset, .unset] [(Value.int ((x0 &&& (127 : Int32)) + (1 : Int32))), (Value.int (((x4.toUInt32 >>> ((16 : Int32) &&& 31).toUInt32).toInt32) &&& (255 : Int32)))]))
    refine own_irem X0 hx hby at_119 (own_wp1 (c_and x0 (127 : Int32) (by decide)).1 (c_and x0 (127 : Int32) (by decide)).2).2 ?_
    show own_G p e below s _ _ _ (s₁.setTop (mkF m 120 #[.val (Value.int x0), .val (Value.int x1), .val (Value.int x2), .val (Value.int x3), .val (Value.int x4), .val (Value.int x5), .val (Value.int (x0 &&& (127 : Int32))), .val (Value.int (((x0.toUInt32 >>> ((7 : Int32) &&& 31).toUInt32).toInt32) &&& (3 : Int32))), .val (Value.int cl), .val (Value.int (x1 &&& (1073741823 : Int32))), .val (Value.int (x1 &&& (1073741823 : Int32))), .val (Value.int (((x1 &&& (1073741823 : Int32)) + (1 : Int32)) + (x3 &&& (127 : Int32)))), .val (Value.int (((((x1 &&& (1073741823 : Int32)) + (1 : Int32)) + (x3 &&& (127 : Int32))) + (1 : Int32)) + (((x3.toUInt32 >>> ((7 : Int32) &&& 31).toUInt32).toInt32) &&& (127 : Int32)))), .val (Value.int (((((((x1 &&& (1073741823 : Int32)) + (1 : Int32)) + (x3 &&& (127 : Int32))) + (1 : Int32)) + (((x3.toUInt32 >>> ((7 : Int32) &&& 31).toUInt32).toInt32) &&& (127 : Int32))) + (1 : Int32)) + (x2 &&& (255 : Int32)))), .val (Value.int ((x4 &&& (255 : Int32)) % ((x0 &&& (127 : Int32)) + (1 : Int32)))), .val (Value.int ((((x4.toUInt32 >>> ((8 : Int32) &&& 31).toUInt32).toInt32) &&& (255 : Int32)) % ((x0 &&& (127 : Int32)) + (1 : Int32)))), .unset, .unset, .unset, .unset, .unset, .unset, .unset, .unset, .unset, .unset] [(Value.int ((((x4.toUInt32 >>> ((16 : Int32) &&& 31).toUInt32).toInt32) &&& (255 : Int32)) % ((x0 &&& (127 : Int32)) + (1 : Int32))))]))
    refine own_istore X0 hx hby at_120 (l' := #[.val (Value.int x0), .val (Value.int x1), .val (Value.int x2), .val (Value.int x3), .val (Value.int x4), .val (Value.int x5), .val (Value.int (x0 &&& (127 : Int32))), .val (Value.int (((x0.toUInt32 >>> ((7 : Int32) &&& 31).toUInt32).toInt32) &&& (3 : Int32))), .val (Value.int cl), .val (Value.int (x1 &&& (1073741823 : Int32))), .val (Value.int (x1 &&& (1073741823 : Int32))), .val (Value.int (((x1 &&& (1073741823 : Int32)) + (1 : Int32)) + (x3 &&& (127 : Int32)))), .val (Value.int (((((x1 &&& (1073741823 : Int32)) + (1 : Int32)) + (x3 &&& (127 : Int32))) + (1 : Int32)) + (((x3.toUInt32 >>> ((7 : Int32) &&& 31).toUInt32).toInt32) &&& (127 : Int32)))), .val (Value.int (((((((x1 &&& (1073741823 : Int32)) + (1 : Int32)) + (x3 &&& (127 : Int32))) + (1 : Int32)) + (((x3.toUInt32 >>> ((7 : Int32) &&& 31).toUInt32).toInt32) &&& (127 : Int32))) + (1 : Int32)) + (x2 &&& (255 : Int32)))), .val (Value.int ((x4 &&& (255 : Int32)) % ((x0 &&& (127 : Int32)) + (1 : Int32)))), .val (Value.int ((((x4.toUInt32 >>> ((8 : Int32) &&& 31).toUInt32).toInt32) &&& (255 : Int32)) % ((x0 &&& (127 : Int32)) + (1 : Int32)))), .val (Value.int ((((x4.toUInt32 >>> ((16 : Int32) &&& 31).toUInt32).toInt32) &&& (255 : Int32)) % ((x0 &&& (127 : Int32)) + (1 : Int32)))), .unset, .unset, .unset, .unset, .unset, .unset, .unset, .unset, .unset]) rfl ?_
    show own_G p e below s _ _ _ (s₁.setTop (mkF m 122 #[.val (Value.int x0), .val (Value.int x1), .val (Value.int x2), .val (Value.int x3), .val (Value.int x4), .val (Value.int x5), .val (Value.int (x0 &&& (127 : Int32))), .val (Value.int (((x0.toUInt32 >>> ((7 : Int32) &&& 31).toUInt32).toInt32) &&& (3 : Int32))), .val (Value.int cl), .val (Value.int (x1 &&& (1073741823 : Int32))), .val (Value.int (x1 &&& (1073741823 : Int32))), .val (Value.int (((x1 &&& (1073741823 : Int32)) + (1 : Int32)) + (x3 &&& (127 : Int32)))), .val (Value.int (((((x1 &&& (1073741823 : Int32)) + (1 : Int32)) + (x3 &&& (127 : Int32))) + (1 : Int32)) + (((x3.toUInt32 >>> ((7 : Int32) &&& 31).toUInt32).toInt32) &&& (127 : Int32)))), .val (Value.int (((((((x1 &&& (1073741823 : Int32)) + (1 : Int32)) + (x3 &&& (127 : Int32))) + (1 : Int32)) + (((x3.toUInt32 >>> ((7 : Int32) &&& 31).toUInt32).toInt32) &&& (127 : Int32))) + (1 : Int32)) + (x2 &&& (255 : Int32)))), .val (Value.int ((x4 &&& (255 : Int32)) % ((x0 &&& (127 : Int32)) + (1 : Int32)))), .val (Value.int ((((x4.toUInt32 >>> ((8 : Int32) &&& 31).toUInt32).toInt32) &&& (255 : Int32)) % ((x0 &&& (127 : Int32)) + (1 : Int32)))), .val (Value.int ((((x4.toUInt32 >>> ((16 : Int32) &&& 31).toUInt32).toInt32) &&& (255 : Int32)) % ((x0 &&& (127 : Int32)) + (1 : Int32)))), .unset, .unset, .unset, .unset, .unset, .unset, .unset, .unset, .unset] []))
    obtain ⟨ww, e_ww⟩ : ∃ z, z = (x0 &&& (127 : Int32)) := ⟨_, rfl⟩
    rw [← e_ww]
    have hww1 : 0 ≤ ww.toInt := by rw [e_ww]; exact (c_and x0 (127 : Int32) (by decide)).1
    have hww2 : ww.toInt ≤ 127 := by rw [e_ww]; exact (c_and x0 (127 : Int32) (by decide)).2
    obtain ⟨v0, e_v0⟩ : ∃ z, z = (x1 &&& (1073741823 : Int32)) := ⟨_, rfl⟩
    rw [← e_v0]
    have ha0 : 0 ≤ v0.toInt ∧ v0.toInt ≤ 1073741823 := by rw [e_v0]; exact c_and x1 (1073741823 : Int32) (by decide)
    obtain ⟨v1, e_v1⟩ : ∃ z, z = ((v0 + (1 : Int32)) + (x3 &&& (127 : Int32))) := ⟨_, rfl⟩
    rw [← e_v1]
    have hg1 := c_and x3 (127 : Int32) (by decide)
    have ha1 : v1.toInt = v0.toInt + 1 + (x3 &&& (127 : Int32)).toInt := by rw [e_v1]; exact own_add1 ha0.1 (by omega) hg1.1 (Int.le_trans hg1.2 (by decide))
    have hg1' : (x3 &&& (127 : Int32)).toInt ≤ 127 := hg1.2
    have hg2 := c_and ((x3.toUInt32 >>> ((7 : Int32) &&& 31).toUInt32).toInt32) (127 : Int32) (by decide)
    have hg2' : (((x3.toUInt32 >>> ((7 : Int32) &&& 31).toUInt32).toInt32) &&& (127 : Int32)).toInt ≤ 127 := hg2.2
    obtain ⟨v2, e_v2⟩ : ∃ z, z = ((v1 + (1 : Int32)) + (((x3.toUInt32 >>> ((7 : Int32) &&& 31).toUInt32).toInt32) &&& (127 : Int32))) := ⟨_, rfl⟩
    rw [← e_v2]
    have ha2 : v2.toInt = v1.toInt + 1 + (((x3.toUInt32 >>> ((7 : Int32) &&& 31).toUInt32).toInt32) &&& (127 : Int32)).toInt := by rw [e_v2]; exact own_add1 (by omega) (by omega) hg2.1 (Int.le_trans hg2.2 (by decide))
    obtain ⟨cnt, e_cnt⟩ : ∃ z, z = ((v2 + (1 : Int32)) + (x2 &&& (255 : Int32))) := ⟨_, rfl⟩
    rw [← e_cnt]
    have hg3 := c_and x2 (255 : Int32) (by decide)
    have ha3 : cnt.toInt = v2.toInt + 1 + (x2 &&& (255 : Int32)).toInt := by rw [e_cnt]; exact own_add1 (by omega) (by omega) hg3.1 (Int.le_trans hg3.2 (by decide))
    have hcc1 : 1 ≤ cnt.toInt := by omega
    obtain ⟨r0, e_r0⟩ : ∃ z, z = ((x4 &&& (255 : Int32)) % (ww + (1 : Int32))) := ⟨_, rfl⟩
    rw [← e_r0]
    have hb10 : 0 ≤ r0.toInt ∧ r0.toInt ≤ ww.toInt := by rw [e_r0]; exact own_rem (c_and x4 (255 : Int32) (by decide)).1 hww1 hww2
    obtain ⟨r1, e_r1⟩ : ∃ z, z = ((((x4.toUInt32 >>> ((8 : Int32) &&& 31).toUInt32).toInt32) &&& (255 : Int32)) % (ww + (1 : Int32))) := ⟨_, rfl⟩
    rw [← e_r1]
    have hb11 : 0 ≤ r1.toInt ∧ r1.toInt ≤ ww.toInt := by rw [e_r1]; exact own_rem (c_and ((x4.toUInt32 >>> ((8 : Int32) &&& 31).toUInt32).toInt32) (255 : Int32) (by decide)).1 hww1 hww2
    obtain ⟨r2, e_r2⟩ : ∃ z, z = ((((x4.toUInt32 >>> ((16 : Int32) &&& 31).toUInt32).toInt32) &&& (255 : Int32)) % (ww + (1 : Int32))) := ⟨_, rfl⟩
    rw [← e_r2]
    have hb12 : 0 ≤ r2.toInt ∧ r2.toInt ≤ ww.toInt := by rw [e_r2]; exact own_rem (c_and ((x4.toUInt32 >>> ((16 : Int32) &&& 31).toUInt32).toInt32) (255 : Int32) (by decide)).1 hww1 hww2
    have hv0n : ¬ v0 < (0 : Int32) := by rw [Int32.lt_iff_toInt_lt]; simp only [Int32.reduceToInt]; omega
    have hv1n : ¬ v1 < (0 : Int32) := by rw [Int32.lt_iff_toInt_lt]; simp only [Int32.reduceToInt]; omega
    have hv2n : ¬ v2 < (0 : Int32) := by rw [Int32.lt_iff_toInt_lt]; simp only [Int32.reduceToInt]; omega
    have J278 : ∀ (d0 d1 d2 q : Int32) (hd0 : d0 = own_d0 r0) (hd1 : d1 = own_d1 cl v0 r1 (v1 - r1) d0) (hd2 : d2 = own_d2 cl v0 v1 r2 (v2 - r2) d0 d1), own_G p e below s (own_rm0_Q Z x0 x1 x2 x3 x4 x5 h0 n0) 24 1280 (s₁.setTop (mkF m 278 #[.val (Value.int x0), .val (Value.int x1), .val (Value.int x2), .val (Value.int x3), .val (Value.int x4), .val (Value.int x5), .val (Value.int ww), .val (Value.int (((x0.toUInt32 >>> ((7 : Int32) &&& 31).toUInt32).toInt32) &&& (3 : Int32))), .val (Value.int cl), .val (Value.int v0), .val (Value.int v0), .val (Value.int v1), .val (Value.int v2), .val (Value.int cnt), .val (Value.int r0), .val (Value.int r1), .val (Value.int r2), .val (Value.int d0), .val (Value.int (v1 - r1)), .val (Value.int d1), .val (Value.int (v2 - r2)), .val (Value.int d2), .val (Value.int q), .unset, .unset, .unset] [])) := by
      intro d0 d1 d2 q hd0 hd1 hd2
      show own_G p e below s _ _ _ (s₁.setTop (mkF m 278 #[.val (Value.int x0), .val (Value.int x1), .val (Value.int x2), .val (Value.int x3), .val (Value.int x4), .val (Value.int x5), .val (Value.int ww), .val (Value.int (((x0.toUInt32 >>> ((7 : Int32) &&& 31).toUInt32).toInt32) &&& (3 : Int32))), .val (Value.int cl), .val (Value.int v0), .val (Value.int v0), .val (Value.int v1), .val (Value.int v2), .val (Value.int cnt), .val (Value.int r0), .val (Value.int r1), .val (Value.int r2), .val (Value.int d0), .val (Value.int (v1 - r1)), .val (Value.int d1), .val (Value.int (v2 - r2)), .val (Value.int d2), .val (Value.int q), .unset, .unset, .unset] []))
      obtain ⟨T1, h1, X1, e1, E1, A1, D1, -, st1⟩ := newO X0 hx hZ hown (own_w2 hw) (own_w3 hw) (own_w4 hw) e0 (g := (mkF m 278 #[.val (Value.int x0), .val (Value.int x1), .val (Value.int x2), .val (Value.int x3), .val (Value.int x4), .val (Value.int x5), .val (Value.int ww), .val (Value.int (((x0.toUInt32 >>> ((7 : Int32) &&& 31).toUInt32).toInt32) &&& (3 : Int32))), .val (Value.int cl), .val (Value.int v0), .val (Value.int v0), .val (Value.int v1), .val (Value.int v2), .val (Value.int cnt), .val (Value.int r0), .val (Value.int r1), .val (Value.int r2), .val (Value.int d0), .val (Value.int (v1 - r1)), .val (Value.int d1), .val (Value.int (v2 - r2)), .val (Value.int d2), .val (Value.int q), .unset, .unset, .unset] [])) rfl (hb hby at_278) (by decide) (by decide)
      obtain ⟨ad1, g1⟩ : ∃ z, z = h0.size := ⟨_, rfl⟩
      rw [← g1] at A1 D1 st1
      have O2 := Old.ext O0 E1
      have g1n : n0 ≤ ad1 := by rw [g1]; exact O0.1 ▸ O0.2.1
      have F1_limit : Fld Z h1 ad1 "com/example/tuck/tuck/ListWindow" "limit" "I" (Value.int (0 : Int32)) := D1 (Or.inr (own_w28 hw)) (ty := .int) (by decide)
      have F1_vertices : Fld Z h1 ad1 "com/example/tuck/tuck/ListWindow" "vertices" "[I" Value.null := D1 (Or.inl (own_w34 hw)) (ty := (.array .int)) (by decide)
      have F1_lists : Fld Z h1 ad1 "com/example/tuck/tuck/ListWindow" "lists" "[[I" Value.null := D1 (Or.inl (own_w38 hw)) (ty := (.array (.array .int))) (by decide)
      have F1_depths : Fld Z h1 ad1 "com/example/tuck/tuck/ListWindow" "depths" "[I" Value.null := D1 (Or.inl (own_w40 hw)) (ty := (.array .int)) (by decide)
      refine own_st st1 ?_
      show own_G p e below s _ _ _ (T1.setTop (mkF m 281 #[.val (Value.int x0), .val (Value.int x1), .val (Value.int x2), .val (Value.int x3), .val (Value.int x4), .val (Value.int x5), .val (Value.int ww), .val (Value.int (((x0.toUInt32 >>> ((7 : Int32) &&& 31).toUInt32).toInt32) &&& (3 : Int32))), .val (Value.int cl), .val (Value.int v0), .val (Value.int v0), .val (Value.int v1), .val (Value.int v2), .val (Value.int cnt), .val (Value.int r0), .val (Value.int r1), .val (Value.int r2), .val (Value.int d0), .val (Value.int (v1 - r1)), .val (Value.int d1), .val (Value.int (v2 - r2)), .val (Value.int d2), .val (Value.int q), .unset, .unset, .unset] [(Value.ref ad1)]))
      refine own_dup X1 hx hby at_281 rfl ?_
      show own_G p e below s _ _ _ (T1.setTop (mkF m 282 #[.val (Value.int x0), .val (Value.int x1), .val (Value.int x2), .val (Value.int x3), .val (Value.int x4), .val (Value.int x5), .val (Value.int ww), .val (Value.int (((x0.toUInt32 >>> ((7 : Int32) &&& 31).toUInt32).toInt32) &&& (3 : Int32))), .val (Value.int cl), .val (Value.int v0), .val (Value.int v0), .val (Value.int v1), .val (Value.int v2), .val (Value.int cnt), .val (Value.int r0), .val (Value.int r1), .val (Value.int r2), .val (Value.int d0), .val (Value.int (v1 - r1)), .val (Value.int d1), .val (Value.int (v2 - r2)), .val (Value.int d2), .val (Value.int q), .unset, .unset, .unset] [(Value.ref ad1), (Value.ref ad1)]))
      refine own_iload X1 hx hby at_282 rfl ?_
      show own_G p e below s _ _ _ (T1.setTop (mkF m 284 #[.val (Value.int x0), .val (Value.int x1), .val (Value.int x2), .val (Value.int x3), .val (Value.int x4), .val (Value.int x5), .val (Value.int ww), .val (Value.int (((x0.toUInt32 >>> ((7 : Int32) &&& 31).toUInt32).toInt32) &&& (3 : Int32))), .val (Value.int cl), .val (Value.int v0), .val (Value.int v0), .val (Value.int v1), .val (Value.int v2), .val (Value.int cnt), .val (Value.int r0), .val (Value.int r1), .val (Value.int r2), .val (Value.int d0), .val (Value.int (v1 - r1)), .val (Value.int d1), .val (Value.int (v2 - r2)), .val (Value.int d2), .val (Value.int q), .unset, .unset, .unset] [(Value.int ww), (Value.ref ad1), (Value.ref ad1)]))
      refine own_iload X1 hx hby at_284 rfl ?_
      show own_G p e below s _ _ _ (T1.setTop (mkF m 286 #[.val (Value.int x0), .val (Value.int x1), .val (Value.int x2), .val (Value.int x3), .val (Value.int x4), .val (Value.int x5), .val (Value.int ww), .val (Value.int (((x0.toUInt32 >>> ((7 : Int32) &&& 31).toUInt32).toInt32) &&& (3 : Int32))), .val (Value.int cl), .val (Value.int v0), .val (Value.int v0), .val (Value.int v1), .val (Value.int v2), .val (Value.int cnt), .val (Value.int r0), .val (Value.int r1), .val (Value.int r2), .val (Value.int d0), .val (Value.int (v1 - r1)), .val (Value.int d1), .val (Value.int (v2 - r2)), .val (Value.int d2), .val (Value.int q), .unset, .unset, .unset] [(Value.int cnt), (Value.int ww), (Value.ref ad1), (Value.ref ad1)]))
      obtain ⟨_, _, ⟨T3, L3, k3, n3⟩, -, X3, ⟨Lc3, hQ3, l3, y3, z3⟩, st3⟩ := X1.specialBack hx (y := (⟨"com/example/tuck/tuck/ListWindow", "<init>", "(II)V"⟩ : MethodName)) rfl hown (mvT hZ (own_w5 hw)) (mvT hZ (own_w6 hw)) (mvT hZ (own_w7 hw)) (by decide) (backOf (W := 1) (own_rmI l Z a0 hw [] ad1 ww cnt h1 n0 O2 A1 F1_limit F1_vertices F1_lists F1_depths g1n hww1 hww2 hcc1) hZ (own_w7 hw) (own_w4 hw) (by decide) (by decide)) (g := (mkF m 286 #[.val (Value.int x0), .val (Value.int x1), .val (Value.int x2), .val (Value.int x3), .val (Value.int x4), .val (Value.int x5), .val (Value.int ww), .val (Value.int (((x0.toUInt32 >>> ((7 : Int32) &&& 31).toUInt32).toInt32) &&& (3 : Int32))), .val (Value.int cl), .val (Value.int v0), .val (Value.int v0), .val (Value.int v1), .val (Value.int v2), .val (Value.int cnt), .val (Value.int r0), .val (Value.int r1), .val (Value.int r2), .val (Value.int d0), .val (Value.int (v1 - r1)), .val (Value.int d1), .val (Value.int (v2 - r2)), .val (Value.int d2), .val (Value.int q), .unset, .unset, .unset] [(Value.int cnt), (Value.int ww), (Value.ref ad1), (Value.ref ad1)])) rfl (by rw [hml]; rfl) (Steps.refl _) (a := ad1) (argsL := [(Value.int ww), (Value.int cnt)]) (rest := [(Value.ref ad1)]) (lenOf own_pd5 rfl) rfl (by show 2 * 0 + _ ≤ _; exact Nat.le_of_eq rfl) (hb hby at_286) (fun _ _ => ⟨rfl, e1, (by decide : (1 : Nat) + 3 ≤ _), (by decide : (4 : Nat) + 192 ≤ _)⟩)
      dsimp only [Pt.U, Pt.locs, Pt.cells, Pt.slots] at X3 l3 y3 z3 st3 hQ3
      subst l3 y3 z3
      obtain ⟨rfl, Nq3, Kq3, kv3, kl3, kd3, n3_, zv3, zl3, zd3, hpw3, hnl3, Eq3, Fl3, Fv3, Fs3, Fd3, Av3, Al3, Ad3, gv3, gl3, gd3, n13, n23, n33, n43, n53, n63⟩ := hQ3
      have N3 := Fr.app N0 Nq3
      have E4_ad1 := Exa.keep A1 Kq3
      have O4 := Old.keep O2 Kq3 (allS g1n all0)
      refine own_tr st3 ?_
      show own_G p e below s _ _ _ (T3.setTop (mkF m 289 #[.val (Value.int x0), .val (Value.int x1), .val (Value.int x2), .val (Value.int x3), .val (Value.int x4), .val (Value.int x5), .val (Value.int ww), .val (Value.int (((x0.toUInt32 >>> ((7 : Int32) &&& 31).toUInt32).toInt32) &&& (3 : Int32))), .val (Value.int cl), .val (Value.int v0), .val (Value.int v0), .val (Value.int v1), .val (Value.int v2), .val (Value.int cnt), .val (Value.int r0), .val (Value.int r1), .val (Value.int r2), .val (Value.int d0), .val (Value.int (v1 - r1)), .val (Value.int d1), .val (Value.int (v2 - r2)), .val (Value.int d2), .val (Value.int q), .unset, .unset, .unset] [(Value.ref ad1)]))
      refine own_astore X3 hx hby at_289 rfl (l' := #[.val (Value.int x0), .val (Value.int x1), .val (Value.int x2), .val (Value.int x3), .val (Value.int x4), .val (Value.int x5), .val (Value.int ww), .val (Value.int (((x0.toUInt32 >>> ((7 : Int32) &&& 31).toUInt32).toInt32) &&& (3 : Int32))), .val (Value.int cl), .val (Value.int v0), .val (Value.int v0), .val (Value.int v1), .val (Value.int v2), .val (Value.int cnt), .val (Value.int r0), .val (Value.int r1), .val (Value.int r2), .val (Value.int d0), .val (Value.int (v1 - r1)), .val (Value.int d1), .val (Value.int (v2 - r2)), .val (Value.int d2), .val (Value.int q), .val (Value.ref ad1), .unset, .unset]) rfl ?_
      show own_G p e below s _ _ _ (T3.setTop (mkF m 291 #[.val (Value.int x0), .val (Value.int x1), .val (Value.int x2), .val (Value.int x3), .val (Value.int x4), .val (Value.int x5), .val (Value.int ww), .val (Value.int (((x0.toUInt32 >>> ((7 : Int32) &&& 31).toUInt32).toInt32) &&& (3 : Int32))), .val (Value.int cl), .val (Value.int v0), .val (Value.int v0), .val (Value.int v1), .val (Value.int v2), .val (Value.int cnt), .val (Value.int r0), .val (Value.int r1), .val (Value.int r2), .val (Value.int d0), .val (Value.int (v1 - r1)), .val (Value.int d1), .val (Value.int (v2 - r2)), .val (Value.int d2), .val (Value.int q), .val (Value.ref ad1), .unset, .unset] []))
      refine own_aload X3 hx hby at_291 rfl rfl ?_
      show own_G p e below s _ _ _ (T3.setTop (mkF m 293 #[.val (Value.int x0), .val (Value.int x1), .val (Value.int x2), .val (Value.int x3), .val (Value.int x4), .val (Value.int x5), .val (Value.int ww), .val (Value.int (((x0.toUInt32 >>> ((7 : Int32) &&& 31).toUInt32).toInt32) &&& (3 : Int32))), .val (Value.int cl), .val (Value.int v0), .val (Value.int v0), .val (Value.int v1), .val (Value.int v2), .val (Value.int cnt), .val (Value.int r0), .val (Value.int r1), .val (Value.int r2), .val (Value.int d0), .val (Value.int (v1 - r1)), .val (Value.int d1), .val (Value.int (v2 - r2)), .val (Value.int d2), .val (Value.int q), .val (Value.ref ad1), .unset, .unset] [(Value.ref ad1)]))
      refine own_iload X3 hx hby at_293 rfl ?_
      show own_G p e below s _ _ _ (T3.setTop (mkF m 295 #[.val (Value.int x0), .val (Value.int x1), .val (Value.int x2), .val (Value.int x3), .val (Value.int x4), .val (Value.int x5), .val (Value.int ww), .val (Value.int (((x0.toUInt32 >>> ((7 : Int32) &&& 31).toUInt32).toInt32) &&& (3 : Int32))), .val (Value.int cl), .val (Value.int v0), .val (Value.int v0), .val (Value.int v1), .val (Value.int v2), .val (Value.int cnt), .val (Value.int r0), .val (Value.int r1), .val (Value.int r2), .val (Value.int d0), .val (Value.int (v1 - r1)), .val (Value.int d1), .val (Value.int (v2 - r2)), .val (Value.int d2), .val (Value.int q), .val (Value.ref ad1), .unset, .unset] [(Value.int v0), (Value.ref ad1)]))
      refine own_aconst_null X3 hx hby at_295 ?_
      show own_G p e below s _ _ _ (T3.setTop (mkF m 296 #[.val (Value.int x0), .val (Value.int x1), .val (Value.int x2), .val (Value.int x3), .val (Value.int x4), .val (Value.int x5), .val (Value.int ww), .val (Value.int (((x0.toUInt32 >>> ((7 : Int32) &&& 31).toUInt32).toInt32) &&& (3 : Int32))), .val (Value.int cl), .val (Value.int v0), .val (Value.int v0), .val (Value.int v1), .val (Value.int v2), .val (Value.int cnt), .val (Value.int r0), .val (Value.int r1), .val (Value.int r2), .val (Value.int d0), .val (Value.int (v1 - r1)), .val (Value.int d1), .val (Value.int (v2 - r2)), .val (Value.int d2), .val (Value.int q), .val (Value.ref ad1), .unset, .unset] [Value.null, (Value.int v0), (Value.ref ad1)]))
      refine own_iload X3 hx hby at_296 rfl ?_
      show own_G p e below s _ _ _ (T3.setTop (mkF m 298 #[.val (Value.int x0), .val (Value.int x1), .val (Value.int x2), .val (Value.int x3), .val (Value.int x4), .val (Value.int x5), .val (Value.int ww), .val (Value.int (((x0.toUInt32 >>> ((7 : Int32) &&& 31).toUInt32).toInt32) &&& (3 : Int32))), .val (Value.int cl), .val (Value.int v0), .val (Value.int v0), .val (Value.int v1), .val (Value.int v2), .val (Value.int cnt), .val (Value.int r0), .val (Value.int r1), .val (Value.int r2), .val (Value.int d0), .val (Value.int (v1 - r1)), .val (Value.int d1), .val (Value.int (v2 - r2)), .val (Value.int d2), .val (Value.int q), .val (Value.ref ad1), .unset, .unset] [(Value.int r0), Value.null, (Value.int v0), (Value.ref ad1)]))
      obtain ⟨cq5, kq5, q5a, q5b, q5c⟩ := isOf (T := T3) hZ rfl Eq3
      obtain ⟨_, _, ⟨T5, L5, k5, n5⟩, -, X5, ⟨Lc5, hQ5, l5, y5, z5⟩, st5⟩ := X3.virtualBack hx (y := (⟨"com/example/tuck/tuck/ListWindow", "keep", "(I[II)V"⟩ : MethodName)) (z := (⟨"com/example/tuck/tuck/ListWindow", "keep", "(I[II)V"⟩ : MethodName)) hown (mvT hZ (own_w45 hw)) (mvT hZ (own_w46 hw)) (notFace_of_selects (args := #[]) (mvT hZ (own_w48 hw))) (mvT hZ (own_w48 hw)) (mvT hZ (own_w47 hw)) (by decide) (backOf (W := 0) (own_rmKN l Z a0 hw [] ad1 v0 r0 (own_lm (own_need ww cnt)) kv3 kl3 kd3 n3_ (fun _ => (-1 : Int32)) (fun _ => (0 : Int32)) T3.heap n0 O4 Eq3 Fl3 Fv3 Fs3 Fd3 Av3 Al3 Ad3 g1n gv3 gl3 gd3 n13 n23 n33 n43 n53 n63 hpw3 hnl3 (own_In_empty _) hv0n (by show (-1 : Int32).toInt < 0; decide)) hZ (own_w49 hw) (own_w4 hw) (by decide) (by decide)) q5a q5c (g := (mkF m 298 #[.val (Value.int x0), .val (Value.int x1), .val (Value.int x2), .val (Value.int x3), .val (Value.int x4), .val (Value.int x5), .val (Value.int ww), .val (Value.int (((x0.toUInt32 >>> ((7 : Int32) &&& 31).toUInt32).toInt32) &&& (3 : Int32))), .val (Value.int cl), .val (Value.int v0), .val (Value.int v0), .val (Value.int v1), .val (Value.int v2), .val (Value.int cnt), .val (Value.int r0), .val (Value.int r1), .val (Value.int r2), .val (Value.int d0), .val (Value.int (v1 - r1)), .val (Value.int d1), .val (Value.int (v2 - r2)), .val (Value.int d2), .val (Value.int q), .val (Value.ref ad1), .unset, .unset] [(Value.int r0), Value.null, (Value.int v0), (Value.ref ad1)])) rfl (by rw [hml]; rfl) (Steps.refl _) (argsL := [(Value.int v0), Value.null, (Value.int r0)]) (rest := []) (lenOf own_pd6 rfl) rfl (by show 2 * 0 + _ ≤ _; exact Nat.le_of_eq rfl) (hb hby at_298) (fun _ _ => ⟨rfl, rfl, (by decide : (4 : Nat) + 0 ≤ _), (by decide : (196 : Nat) + 0 ≤ _)⟩)
      dsimp only [Pt.U, Pt.locs, Pt.cells, Pt.slots] at X5 l5 y5 z5 st5 hQ5
      subst l5 y5 z5
      obtain ⟨rfl, Nq5, Kq5, kv5, kl5, kd5, n5_, V5_, D5_, hpw5, hnl5, hKp5, Eq5, Fl5, Fv5, Fs5, Fd5, Av5, Al5, Ad5, gv5, gl5, gd5, n15, n25, n35, n45, n55, n65⟩ := hQ5
      have N5 := Fr.app N3 Nq5
      have E6_ad1 := Exa.keep Eq3 Kq5
      have O6 := Old.keep O4 Kq5 (allS g1n (allS gv3 (allS gl3 (allS gd3 all0))))
      refine own_tr st5 ?_
      show own_G p e below s _ _ _ (T5.setTop (mkF m 301 #[.val (Value.int x0), .val (Value.int x1), .val (Value.int x2), .val (Value.int x3), .val (Value.int x4), .val (Value.int x5), .val (Value.int ww), .val (Value.int (((x0.toUInt32 >>> ((7 : Int32) &&& 31).toUInt32).toInt32) &&& (3 : Int32))), .val (Value.int cl), .val (Value.int v0), .val (Value.int v0), .val (Value.int v1), .val (Value.int v2), .val (Value.int cnt), .val (Value.int r0), .val (Value.int r1), .val (Value.int r2), .val (Value.int d0), .val (Value.int (v1 - r1)), .val (Value.int d1), .val (Value.int (v2 - r2)), .val (Value.int d2), .val (Value.int q), .val (Value.ref ad1), .unset, .unset] []))
      refine own_iload X5 hx hby at_301 rfl ?_
      show own_G p e below s _ _ _ (T5.setTop (mkF m 303 #[.val (Value.int x0), .val (Value.int x1), .val (Value.int x2), .val (Value.int x3), .val (Value.int x4), .val (Value.int x5), .val (Value.int ww), .val (Value.int (((x0.toUInt32 >>> ((7 : Int32) &&& 31).toUInt32).toInt32) &&& (3 : Int32))), .val (Value.int cl), .val (Value.int v0), .val (Value.int v0), .val (Value.int v1), .val (Value.int v2), .val (Value.int cnt), .val (Value.int r0), .val (Value.int r1), .val (Value.int r2), .val (Value.int d0), .val (Value.int (v1 - r1)), .val (Value.int d1), .val (Value.int (v2 - r2)), .val (Value.int d2), .val (Value.int q), .val (Value.ref ad1), .unset, .unset] [(Value.int cl)]))
      refine own_if_eq X5 hx hby at_303 (pc' := 311) (by decide) (by decide) (fun hb7 => ?_) (fun hb7 => ?_)
      · show own_G p e below s _ _ _ (T5.setTop (mkF m 311 #[.val (Value.int x0), .val (Value.int x1), .val (Value.int x2), .val (Value.int x3), .val (Value.int x4), .val (Value.int x5), .val (Value.int ww), .val (Value.int (((x0.toUInt32 >>> ((7 : Int32) &&& 31).toUInt32).toInt32) &&& (3 : Int32))), .val (Value.int cl), .val (Value.int v0), .val (Value.int v0), .val (Value.int v1), .val (Value.int v2), .val (Value.int cnt), .val (Value.int r0), .val (Value.int r1), .val (Value.int r2), .val (Value.int d0), .val (Value.int (v1 - r1)), .val (Value.int d1), .val (Value.int (v2 - r2)), .val (Value.int d2), .val (Value.int q), .val (Value.ref ad1), .unset, .unset] []))
        have hA : ∀ q, own_dep n5_ V5_ D5_ q = if q = v0 ∧ cl = (0 : Int32) then d0 else 0 := fun q => by rw [own_stage1 hKp5 q, ← hd0]; simp only [hb7, and_true]
        refine own_aload X5 hx hby at_311 rfl rfl ?_
        show own_G p e below s _ _ _ (T5.setTop (mkF m 313 #[.val (Value.int x0), .val (Value.int x1), .val (Value.int x2), .val (Value.int x3), .val (Value.int x4), .val (Value.int x5), .val (Value.int ww), .val (Value.int (((x0.toUInt32 >>> ((7 : Int32) &&& 31).toUInt32).toInt32) &&& (3 : Int32))), .val (Value.int cl), .val (Value.int v0), .val (Value.int v0), .val (Value.int v1), .val (Value.int v2), .val (Value.int cnt), .val (Value.int r0), .val (Value.int r1), .val (Value.int r2), .val (Value.int d0), .val (Value.int (v1 - r1)), .val (Value.int d1), .val (Value.int (v2 - r2)), .val (Value.int d2), .val (Value.int q), .val (Value.ref ad1), .unset, .unset] [(Value.ref ad1)]))
        refine own_iload X5 hx hby at_313 rfl ?_
        show own_G p e below s _ _ _ (T5.setTop (mkF m 315 #[.val (Value.int x0), .val (Value.int x1), .val (Value.int x2), .val (Value.int x3), .val (Value.int x4), .val (Value.int x5), .val (Value.int ww), .val (Value.int (((x0.toUInt32 >>> ((7 : Int32) &&& 31).toUInt32).toInt32) &&& (3 : Int32))), .val (Value.int cl), .val (Value.int v0), .val (Value.int v0), .val (Value.int v1), .val (Value.int v2), .val (Value.int cnt), .val (Value.int r0), .val (Value.int r1), .val (Value.int r2), .val (Value.int d0), .val (Value.int (v1 - r1)), .val (Value.int d1), .val (Value.int (v2 - r2)), .val (Value.int d2), .val (Value.int q), .val (Value.ref ad1), .unset, .unset] [(Value.int v1), (Value.ref ad1)]))
        refine own_aconst_null X5 hx hby at_315 ?_
        show own_G p e below s _ _ _ (T5.setTop (mkF m 316 #[.val (Value.int x0), .val (Value.int x1), .val (Value.int x2), .val (Value.int x3), .val (Value.int x4), .val (Value.int x5), .val (Value.int ww), .val (Value.int (((x0.toUInt32 >>> ((7 : Int32) &&& 31).toUInt32).toInt32) &&& (3 : Int32))), .val (Value.int cl), .val (Value.int v0), .val (Value.int v0), .val (Value.int v1), .val (Value.int v2), .val (Value.int cnt), .val (Value.int r0), .val (Value.int r1), .val (Value.int r2), .val (Value.int d0), .val (Value.int (v1 - r1)), .val (Value.int d1), .val (Value.int (v2 - r2)), .val (Value.int d2), .val (Value.int q), .val (Value.ref ad1), .unset, .unset] [Value.null, (Value.int v1), (Value.ref ad1)]))
        refine own_iload X5 hx hby at_316 rfl ?_
        show own_G p e below s _ _ _ (T5.setTop (mkF m 318 #[.val (Value.int x0), .val (Value.int x1), .val (Value.int x2), .val (Value.int x3), .val (Value.int x4), .val (Value.int x5), .val (Value.int ww), .val (Value.int (((x0.toUInt32 >>> ((7 : Int32) &&& 31).toUInt32).toInt32) &&& (3 : Int32))), .val (Value.int cl), .val (Value.int v0), .val (Value.int v0), .val (Value.int v1), .val (Value.int v2), .val (Value.int cnt), .val (Value.int r0), .val (Value.int r1), .val (Value.int r2), .val (Value.int d0), .val (Value.int (v1 - r1)), .val (Value.int d1), .val (Value.int (v2 - r2)), .val (Value.int d2), .val (Value.int q), .val (Value.ref ad1), .unset, .unset] [(Value.int r1), Value.null, (Value.int v1), (Value.ref ad1)]))
        obtain ⟨cq8, kq8, q8a, q8b, q8c⟩ := isOf (T := T5) hZ rfl Eq5
        obtain ⟨_, _, ⟨T8, L8, k8, n8⟩, -, X8, ⟨Lc8, hQ8, l8, y8, z8⟩, st8⟩ := X5.virtualBack hx (y := (⟨"com/example/tuck/tuck/ListWindow", "keep", "(I[II)V"⟩ : MethodName)) (z := (⟨"com/example/tuck/tuck/ListWindow", "keep", "(I[II)V"⟩ : MethodName)) hown (mvT hZ (own_w45 hw)) (mvT hZ (own_w46 hw)) (notFace_of_selects (args := #[]) (mvT hZ (own_w48 hw))) (mvT hZ (own_w48 hw)) (mvT hZ (own_w47 hw)) (by decide) (backOf (W := 0) (own_rmKG l Z a0 hw [] ad1 v1 r1 (own_lm (own_need ww cnt)) kv5 kl5 kd5 n5_ V5_ D5_ T5.heap n0 O6 Eq5 Fl5 Fv5 Fs5 Fd5 Av5 Al5 Ad5 g1n gv5 gl5 gd5 n15 n25 n35 n45 n55 n65 hpw5 hnl5 hKp5.1 hv1n) hZ (own_w49 hw) (own_w4 hw) (by decide) (by decide)) q8a q8c (g := (mkF m 318 #[.val (Value.int x0), .val (Value.int x1), .val (Value.int x2), .val (Value.int x3), .val (Value.int x4), .val (Value.int x5), .val (Value.int ww), .val (Value.int (((x0.toUInt32 >>> ((7 : Int32) &&& 31).toUInt32).toInt32) &&& (3 : Int32))), .val (Value.int cl), .val (Value.int v0), .val (Value.int v0), .val (Value.int v1), .val (Value.int v2), .val (Value.int cnt), .val (Value.int r0), .val (Value.int r1), .val (Value.int r2), .val (Value.int d0), .val (Value.int (v1 - r1)), .val (Value.int d1), .val (Value.int (v2 - r2)), .val (Value.int d2), .val (Value.int q), .val (Value.ref ad1), .unset, .unset] [(Value.int r1), Value.null, (Value.int v1), (Value.ref ad1)])) rfl (by rw [hml]; rfl) (Steps.refl _) (argsL := [(Value.int v1), Value.null, (Value.int r1)]) (rest := []) (lenOf own_pd6 rfl) rfl (by show 2 * 0 + _ ≤ _; exact Nat.le_of_eq rfl) (hb hby at_318) (fun _ _ => ⟨rfl, rfl, (by decide : (4 : Nat) + 3 ≤ _), (by decide : (196 : Nat) + 384 ≤ _)⟩)
        dsimp only [Pt.U, Pt.locs, Pt.cells, Pt.slots] at X8 l8 y8 z8 st8 hQ8
        subst l8 y8 z8
        obtain ⟨rfl, Nq8, Kq8, kv8, kl8, kd8, n8_, V8_, D8_, hpw8, hnl8, hKp8, Eq8, Fl8, Fv8, Fs8, Fd8, Av8, Al8, Ad8, gv8, gl8, gd8, n18, n28, n38, n48, n58, n68⟩ := hQ8
        have N8 := Fr.app N5 Nq8
        have E9_ad1 := Exa.keep Eq5 Kq8
        have O9 := Old.keep O6 Kq8 (allS g1n (allS gv5 (allS gl5 (allS gd5 all0))))
        refine own_tr st8 ?_
        show own_G p e below s _ _ _ (T8.setTop (mkF m 321 #[.val (Value.int x0), .val (Value.int x1), .val (Value.int x2), .val (Value.int x3), .val (Value.int x4), .val (Value.int x5), .val (Value.int ww), .val (Value.int (((x0.toUInt32 >>> ((7 : Int32) &&& 31).toUInt32).toInt32) &&& (3 : Int32))), .val (Value.int cl), .val (Value.int v0), .val (Value.int v0), .val (Value.int v1), .val (Value.int v2), .val (Value.int cnt), .val (Value.int r0), .val (Value.int r1), .val (Value.int r2), .val (Value.int d0), .val (Value.int (v1 - r1)), .val (Value.int d1), .val (Value.int (v2 - r2)), .val (Value.int d2), .val (Value.int q), .val (Value.ref ad1), .unset, .unset] []))
        refine own_aload X8 hx hby at_321 rfl rfl ?_
        show own_G p e below s _ _ _ (T8.setTop (mkF m 323 #[.val (Value.int x0), .val (Value.int x1), .val (Value.int x2), .val (Value.int x3), .val (Value.int x4), .val (Value.int x5), .val (Value.int ww), .val (Value.int (((x0.toUInt32 >>> ((7 : Int32) &&& 31).toUInt32).toInt32) &&& (3 : Int32))), .val (Value.int cl), .val (Value.int v0), .val (Value.int v0), .val (Value.int v1), .val (Value.int v2), .val (Value.int cnt), .val (Value.int r0), .val (Value.int r1), .val (Value.int r2), .val (Value.int d0), .val (Value.int (v1 - r1)), .val (Value.int d1), .val (Value.int (v2 - r2)), .val (Value.int d2), .val (Value.int q), .val (Value.ref ad1), .unset, .unset] [(Value.ref ad1)]))
        refine own_iload X8 hx hby at_323 rfl ?_
        show own_G p e below s _ _ _ (T8.setTop (mkF m 325 #[.val (Value.int x0), .val (Value.int x1), .val (Value.int x2), .val (Value.int x3), .val (Value.int x4), .val (Value.int x5), .val (Value.int ww), .val (Value.int (((x0.toUInt32 >>> ((7 : Int32) &&& 31).toUInt32).toInt32) &&& (3 : Int32))), .val (Value.int cl), .val (Value.int v0), .val (Value.int v0), .val (Value.int v1), .val (Value.int v2), .val (Value.int cnt), .val (Value.int r0), .val (Value.int r1), .val (Value.int r2), .val (Value.int d0), .val (Value.int (v1 - r1)), .val (Value.int d1), .val (Value.int (v2 - r2)), .val (Value.int d2), .val (Value.int q), .val (Value.ref ad1), .unset, .unset] [(Value.int v2), (Value.ref ad1)]))
        refine own_aconst_null X8 hx hby at_325 ?_
        show own_G p e below s _ _ _ (T8.setTop (mkF m 326 #[.val (Value.int x0), .val (Value.int x1), .val (Value.int x2), .val (Value.int x3), .val (Value.int x4), .val (Value.int x5), .val (Value.int ww), .val (Value.int (((x0.toUInt32 >>> ((7 : Int32) &&& 31).toUInt32).toInt32) &&& (3 : Int32))), .val (Value.int cl), .val (Value.int v0), .val (Value.int v0), .val (Value.int v1), .val (Value.int v2), .val (Value.int cnt), .val (Value.int r0), .val (Value.int r1), .val (Value.int r2), .val (Value.int d0), .val (Value.int (v1 - r1)), .val (Value.int d1), .val (Value.int (v2 - r2)), .val (Value.int d2), .val (Value.int q), .val (Value.ref ad1), .unset, .unset] [Value.null, (Value.int v2), (Value.ref ad1)]))
        refine own_iload X8 hx hby at_326 rfl ?_
        show own_G p e below s _ _ _ (T8.setTop (mkF m 328 #[.val (Value.int x0), .val (Value.int x1), .val (Value.int x2), .val (Value.int x3), .val (Value.int x4), .val (Value.int x5), .val (Value.int ww), .val (Value.int (((x0.toUInt32 >>> ((7 : Int32) &&& 31).toUInt32).toInt32) &&& (3 : Int32))), .val (Value.int cl), .val (Value.int v0), .val (Value.int v0), .val (Value.int v1), .val (Value.int v2), .val (Value.int cnt), .val (Value.int r0), .val (Value.int r1), .val (Value.int r2), .val (Value.int d0), .val (Value.int (v1 - r1)), .val (Value.int d1), .val (Value.int (v2 - r2)), .val (Value.int d2), .val (Value.int q), .val (Value.ref ad1), .unset, .unset] [(Value.int r2), Value.null, (Value.int v2), (Value.ref ad1)]))
        obtain ⟨cq10, kq10, q10a, q10b, q10c⟩ := isOf (T := T8) hZ rfl Eq8
        obtain ⟨_, _, ⟨T10, L10, k10, n10⟩, -, X10, ⟨Lc10, hQ10, l10, y10, z10⟩, st10⟩ := X8.virtualBack hx (y := (⟨"com/example/tuck/tuck/ListWindow", "keep", "(I[II)V"⟩ : MethodName)) (z := (⟨"com/example/tuck/tuck/ListWindow", "keep", "(I[II)V"⟩ : MethodName)) hown (mvT hZ (own_w45 hw)) (mvT hZ (own_w46 hw)) (notFace_of_selects (args := #[]) (mvT hZ (own_w48 hw))) (mvT hZ (own_w48 hw)) (mvT hZ (own_w47 hw)) (by decide) (backOf (W := 0) (own_rmKG l Z a0 hw [] ad1 v2 r2 (own_lm (own_need ww cnt)) kv8 kl8 kd8 n8_ V8_ D8_ T8.heap n0 O9 Eq8 Fl8 Fv8 Fs8 Fd8 Av8 Al8 Ad8 g1n gv8 gl8 gd8 n18 n28 n38 n48 n58 n68 hpw8 hnl8 hKp8.1 hv2n) hZ (own_w49 hw) (own_w4 hw) (by decide) (by decide)) q10a q10c (g := (mkF m 328 #[.val (Value.int x0), .val (Value.int x1), .val (Value.int x2), .val (Value.int x3), .val (Value.int x4), .val (Value.int x5), .val (Value.int ww), .val (Value.int (((x0.toUInt32 >>> ((7 : Int32) &&& 31).toUInt32).toInt32) &&& (3 : Int32))), .val (Value.int cl), .val (Value.int v0), .val (Value.int v0), .val (Value.int v1), .val (Value.int v2), .val (Value.int cnt), .val (Value.int r0), .val (Value.int r1), .val (Value.int r2), .val (Value.int d0), .val (Value.int (v1 - r1)), .val (Value.int d1), .val (Value.int (v2 - r2)), .val (Value.int d2), .val (Value.int q), .val (Value.ref ad1), .unset, .unset] [(Value.int r2), Value.null, (Value.int v2), (Value.ref ad1)])) rfl (by rw [hml]; rfl) (Steps.refl _) (argsL := [(Value.int v2), Value.null, (Value.int r2)]) (rest := []) (lenOf own_pd6 rfl) rfl (by show 2 * 0 + _ ≤ _; exact Nat.le_of_eq rfl) (hb hby at_328) (fun _ _ => ⟨rfl, rfl, (by decide : (7 : Nat) + 3 ≤ _), (by decide : (580 : Nat) + 384 ≤ _)⟩)
        dsimp only [Pt.U, Pt.locs, Pt.cells, Pt.slots] at X10 l10 y10 z10 st10 hQ10
        subst l10 y10 z10
        obtain ⟨rfl, Nq10, Kq10, kv10, kl10, kd10, n10_, V10_, D10_, hpw10, hnl10, hKp10, Eq10, Fl10, Fv10, Fs10, Fd10, Av10, Al10, Ad10, gv10, gl10, gd10, n110, n210, n310, n410, n510, n610⟩ := hQ10
        have N10 := Fr.app N8 Nq10
        have E11_ad1 := Exa.keep Eq8 Kq10
        have O11 := Old.keep O9 Kq10 (allS g1n (allS gv8 (allS gl8 (allS gd8 all0))))
        refine own_tr st10 ?_
        show own_G p e below s _ _ _ (T10.setTop (mkF m 331 #[.val (Value.int x0), .val (Value.int x1), .val (Value.int x2), .val (Value.int x3), .val (Value.int x4), .val (Value.int x5), .val (Value.int ww), .val (Value.int (((x0.toUInt32 >>> ((7 : Int32) &&& 31).toUInt32).toInt32) &&& (3 : Int32))), .val (Value.int cl), .val (Value.int v0), .val (Value.int v0), .val (Value.int v1), .val (Value.int v2), .val (Value.int cnt), .val (Value.int r0), .val (Value.int r1), .val (Value.int r2), .val (Value.int d0), .val (Value.int (v1 - r1)), .val (Value.int d1), .val (Value.int (v2 - r2)), .val (Value.int d2), .val (Value.int q), .val (Value.ref ad1), .unset, .unset] []))
        refine own_aload X10 hx hby at_331 rfl rfl ?_
        show own_G p e below s _ _ _ (T10.setTop (mkF m 333 #[.val (Value.int x0), .val (Value.int x1), .val (Value.int x2), .val (Value.int x3), .val (Value.int x4), .val (Value.int x5), .val (Value.int ww), .val (Value.int (((x0.toUInt32 >>> ((7 : Int32) &&& 31).toUInt32).toInt32) &&& (3 : Int32))), .val (Value.int cl), .val (Value.int v0), .val (Value.int v0), .val (Value.int v1), .val (Value.int v2), .val (Value.int cnt), .val (Value.int r0), .val (Value.int r1), .val (Value.int r2), .val (Value.int d0), .val (Value.int (v1 - r1)), .val (Value.int d1), .val (Value.int (v2 - r2)), .val (Value.int d2), .val (Value.int q), .val (Value.ref ad1), .unset, .unset] [(Value.ref ad1)]))
        refine own_iload X10 hx hby at_333 rfl ?_
        show own_G p e below s _ _ _ (T10.setTop (mkF m 335 #[.val (Value.int x0), .val (Value.int x1), .val (Value.int x2), .val (Value.int x3), .val (Value.int x4), .val (Value.int x5), .val (Value.int ww), .val (Value.int (((x0.toUInt32 >>> ((7 : Int32) &&& 31).toUInt32).toInt32) &&& (3 : Int32))), .val (Value.int cl), .val (Value.int v0), .val (Value.int v0), .val (Value.int v1), .val (Value.int v2), .val (Value.int cnt), .val (Value.int r0), .val (Value.int r1), .val (Value.int r2), .val (Value.int d0), .val (Value.int (v1 - r1)), .val (Value.int d1), .val (Value.int (v2 - r2)), .val (Value.int d2), .val (Value.int q), .val (Value.ref ad1), .unset, .unset] [(Value.int q), (Value.ref ad1)]))
        obtain ⟨cq12, kq12, q12a, q12b, q12c⟩ := isOf (T := T10) hZ rfl Eq10
        obtain ⟨_, _, ⟨T12, L12, k12, n12⟩, -, X12, ⟨Lc12, hQ12, l12, y12, z12⟩, st12⟩ := X10.virtualBack hx (y := (⟨"com/example/tuck/tuck/ListWindow", "depth", "(I)I"⟩ : MethodName)) (z := (⟨"com/example/tuck/tuck/ListWindow", "depth", "(I)I"⟩ : MethodName)) hown (mvT hZ (own_w50 hw)) (mvT hZ (own_w51 hw)) (notFace_of_selects (args := #[]) (mvT hZ (own_w53 hw))) (mvT hZ (own_w53 hw)) (mvT hZ (own_w52 hw)) (by decide) (backOf (W := 0) (own_rmD l Z a0 hw [] ad1 q (own_lm (own_need ww cnt)) kv10 kl10 kd10 n10_ V10_ D10_ T10.heap n0 O11 Eq10 Fl10 Fv10 Fs10 Fd10 Av10 Al10 Ad10 g1n gv10 gl10 gd10 n110 n210 n310 n410 n510 n610 hpw10) hZ (own_w54 hw) (own_w4 hw) (by decide) (by decide)) q12a q12c (g := (mkF m 335 #[.val (Value.int x0), .val (Value.int x1), .val (Value.int x2), .val (Value.int x3), .val (Value.int x4), .val (Value.int x5), .val (Value.int ww), .val (Value.int (((x0.toUInt32 >>> ((7 : Int32) &&& 31).toUInt32).toInt32) &&& (3 : Int32))), .val (Value.int cl), .val (Value.int v0), .val (Value.int v0), .val (Value.int v1), .val (Value.int v2), .val (Value.int cnt), .val (Value.int r0), .val (Value.int r1), .val (Value.int r2), .val (Value.int d0), .val (Value.int (v1 - r1)), .val (Value.int d1), .val (Value.int (v2 - r2)), .val (Value.int d2), .val (Value.int q), .val (Value.ref ad1), .unset, .unset] [(Value.int q), (Value.ref ad1)])) rfl (by rw [hml]; rfl) (Steps.refl _) (argsL := [(Value.int q)]) (rest := []) (lenOf own_pd0 rfl) rfl (by show 2 * 0 + _ ≤ _; exact Nat.le_of_eq rfl) (hb hby at_335) (fun _ _ => ⟨rfl, rfl, (by decide : (10 : Nat) + 0 ≤ _), (by decide : (964 : Nat) + 0 ≤ _)⟩)
        dsimp only [Pt.U, Pt.locs, Pt.cells, Pt.slots] at X12 l12 y12 z12 st12 hQ12
        subst l12 y12 z12
        obtain ⟨rfl, e12, Nq12⟩ := hQ12
        have N12 := Fr.app N10 Nq12
        refine own_tr st12 ?_
        show own_G p e below s _ _ _ (T12.setTop (mkF m 338 #[.val (Value.int x0), .val (Value.int x1), .val (Value.int x2), .val (Value.int x3), .val (Value.int x4), .val (Value.int x5), .val (Value.int ww), .val (Value.int (((x0.toUInt32 >>> ((7 : Int32) &&& 31).toUInt32).toInt32) &&& (3 : Int32))), .val (Value.int cl), .val (Value.int v0), .val (Value.int v0), .val (Value.int v1), .val (Value.int v2), .val (Value.int cnt), .val (Value.int r0), .val (Value.int r1), .val (Value.int r2), .val (Value.int d0), .val (Value.int (v1 - r1)), .val (Value.int d1), .val (Value.int (v2 - r2)), .val (Value.int d2), .val (Value.int q), .val (Value.ref ad1), .unset, .unset] [(Value.int (own_dep n10_ V10_ D10_ q))]))
        have hlim : min (ww.toInt + 1) cnt.toInt ≤ (own_lm (own_need ww cnt)).toInt := by have e := own_need_eq hww1 hww2 hcc1; have o := (own_lm_ok (x := own_need ww cnt) (by omega) (by omega)).2; omega
        have LW := own_law3 hww1 hww2 ha0.1 (by omega) (by omega) (by omega) hb11 hb12 hlim hA hKp8 hKp10 hd1 hd2 q
        refine own_istore X12 hx hby at_338 (l' := #[.val (Value.int x0), .val (Value.int x1), .val (Value.int x2), .val (Value.int x3), .val (Value.int x4), .val (Value.int x5), .val (Value.int ww), .val (Value.int (((x0.toUInt32 >>> ((7 : Int32) &&& 31).toUInt32).toInt32) &&& (3 : Int32))), .val (Value.int cl), .val (Value.int v0), .val (Value.int v0), .val (Value.int v1), .val (Value.int v2), .val (Value.int cnt), .val (Value.int r0), .val (Value.int r1), .val (Value.int r2), .val (Value.int d0), .val (Value.int (v1 - r1)), .val (Value.int d1), .val (Value.int (v2 - r2)), .val (Value.int d2), .val (Value.int q), .val (Value.ref ad1), .val (Value.int (own_dep n10_ V10_ D10_ q)), .unset]) rfl ?_
        show own_G p e below s _ _ _ (T12.setTop (mkF m 340 #[.val (Value.int x0), .val (Value.int x1), .val (Value.int x2), .val (Value.int x3), .val (Value.int x4), .val (Value.int x5), .val (Value.int ww), .val (Value.int (((x0.toUInt32 >>> ((7 : Int32) &&& 31).toUInt32).toInt32) &&& (3 : Int32))), .val (Value.int cl), .val (Value.int v0), .val (Value.int v0), .val (Value.int v1), .val (Value.int v2), .val (Value.int cnt), .val (Value.int r0), .val (Value.int r1), .val (Value.int r2), .val (Value.int d0), .val (Value.int (v1 - r1)), .val (Value.int d1), .val (Value.int (v2 - r2)), .val (Value.int d2), .val (Value.int q), .val (Value.ref ad1), .val (Value.int (own_dep n10_ V10_ D10_ q)), .unset] []))
        refine own_iload X12 hx hby at_340 rfl ?_
        show own_G p e below s _ _ _ (T12.setTop (mkF m 342 #[.val (Value.int x0), .val (Value.int x1), .val (Value.int x2), .val (Value.int x3), .val (Value.int x4), .val (Value.int x5), .val (Value.int ww), .val (Value.int (((x0.toUInt32 >>> ((7 : Int32) &&& 31).toUInt32).toInt32) &&& (3 : Int32))), .val (Value.int cl), .val (Value.int v0), .val (Value.int v0), .val (Value.int v1), .val (Value.int v2), .val (Value.int cnt), .val (Value.int r0), .val (Value.int r1), .val (Value.int r2), .val (Value.int d0), .val (Value.int (v1 - r1)), .val (Value.int d1), .val (Value.int (v2 - r2)), .val (Value.int d2), .val (Value.int q), .val (Value.ref ad1), .val (Value.int (own_dep n10_ V10_ D10_ q)), .unset] [(Value.int q)]))
        refine own_iload X12 hx hby at_342 rfl ?_
        show own_G p e below s _ _ _ (T12.setTop (mkF m 344 #[.val (Value.int x0), .val (Value.int x1), .val (Value.int x2), .val (Value.int x3), .val (Value.int x4), .val (Value.int x5), .val (Value.int ww), .val (Value.int (((x0.toUInt32 >>> ((7 : Int32) &&& 31).toUInt32).toInt32) &&& (3 : Int32))), .val (Value.int cl), .val (Value.int v0), .val (Value.int v0), .val (Value.int v1), .val (Value.int v2), .val (Value.int cnt), .val (Value.int r0), .val (Value.int r1), .val (Value.int r2), .val (Value.int d0), .val (Value.int (v1 - r1)), .val (Value.int d1), .val (Value.int (v2 - r2)), .val (Value.int d2), .val (Value.int q), .val (Value.ref ad1), .val (Value.int (own_dep n10_ V10_ D10_ q)), .unset] [(Value.int v2), (Value.int q)]))
        refine own_iload X12 hx hby at_344 rfl ?_
        show own_G p e below s _ _ _ (T12.setTop (mkF m 346 #[.val (Value.int x0), .val (Value.int x1), .val (Value.int x2), .val (Value.int x3), .val (Value.int x4), .val (Value.int x5), .val (Value.int ww), .val (Value.int (((x0.toUInt32 >>> ((7 : Int32) &&& 31).toUInt32).toInt32) &&& (3 : Int32))), .val (Value.int cl), .val (Value.int v0), .val (Value.int v0), .val (Value.int v1), .val (Value.int v2), .val (Value.int cnt), .val (Value.int r0), .val (Value.int r1), .val (Value.int r2), .val (Value.int d0), .val (Value.int (v1 - r1)), .val (Value.int d1), .val (Value.int (v2 - r2)), .val (Value.int d2), .val (Value.int q), .val (Value.ref ad1), .val (Value.int (own_dep n10_ V10_ D10_ q)), .unset] [(Value.int ww), (Value.int v2), (Value.int q)]))
        refine own_isub X12 hx hby at_346 ?_
        show own_G p e below s _ _ _ (T12.setTop (mkF m 347 #[.val (Value.int x0), .val (Value.int x1), .val (Value.int x2), .val (Value.int x3), .val (Value.int x4), .val (Value.int x5), .val (Value.int ww), .val (Value.int (((x0.toUInt32 >>> ((7 : Int32) &&& 31).toUInt32).toInt32) &&& (3 : Int32))), .val (Value.int cl), .val (Value.int v0), .val (Value.int v0), .val (Value.int v1), .val (Value.int v2), .val (Value.int cnt), .val (Value.int r0), .val (Value.int r1), .val (Value.int r2), .val (Value.int d0), .val (Value.int (v1 - r1)), .val (Value.int d1), .val (Value.int (v2 - r2)), .val (Value.int d2), .val (Value.int q), .val (Value.ref ad1), .val (Value.int (own_dep n10_ V10_ D10_ q)), .unset] [(Value.int (v2 - ww)), (Value.int q)]))
        refine own_icmp_lt X12 hx hby at_347 (pc' := 354) (by decide) (by decide) (fun hb13 => ?_) (fun hb13 => ?_)
        · show own_G p e below s _ _ _ (T12.setTop (mkF m 354 #[.val (Value.int x0), .val (Value.int x1), .val (Value.int x2), .val (Value.int x3), .val (Value.int x4), .val (Value.int x5), .val (Value.int ww), .val (Value.int (((x0.toUInt32 >>> ((7 : Int32) &&& 31).toUInt32).toInt32) &&& (3 : Int32))), .val (Value.int cl), .val (Value.int v0), .val (Value.int v0), .val (Value.int v1), .val (Value.int v2), .val (Value.int cnt), .val (Value.int r0), .val (Value.int r1), .val (Value.int r2), .val (Value.int d0), .val (Value.int (v1 - r1)), .val (Value.int d1), .val (Value.int (v2 - r2)), .val (Value.int d2), .val (Value.int q), .val (Value.ref ad1), .val (Value.int (own_dep n10_ V10_ D10_ q)), .unset] []))
          refine own_iconst X12 hx hby at_354 ?_
          show own_G p e below s _ _ _ (T12.setTop (mkF m 355 #[.val (Value.int x0), .val (Value.int x1), .val (Value.int x2), .val (Value.int x3), .val (Value.int x4), .val (Value.int x5), .val (Value.int ww), .val (Value.int (((x0.toUInt32 >>> ((7 : Int32) &&& 31).toUInt32).toInt32) &&& (3 : Int32))), .val (Value.int cl), .val (Value.int v0), .val (Value.int v0), .val (Value.int v1), .val (Value.int v2), .val (Value.int cnt), .val (Value.int r0), .val (Value.int r1), .val (Value.int r2), .val (Value.int d0), .val (Value.int (v1 - r1)), .val (Value.int d1), .val (Value.int (v2 - r2)), .val (Value.int d2), .val (Value.int q), .val (Value.ref ad1), .val (Value.int (own_dep n10_ V10_ D10_ q)), .unset] [(Value.int (0 : Int32))]))
          refine own_istore X12 hx hby at_355 (l' := #[.val (Value.int x0), .val (Value.int x1), .val (Value.int x2), .val (Value.int x3), .val (Value.int x4), .val (Value.int x5), .val (Value.int ww), .val (Value.int (((x0.toUInt32 >>> ((7 : Int32) &&& 31).toUInt32).toInt32) &&& (3 : Int32))), .val (Value.int cl), .val (Value.int v0), .val (Value.int v0), .val (Value.int v1), .val (Value.int v2), .val (Value.int cnt), .val (Value.int r0), .val (Value.int r1), .val (Value.int r2), .val (Value.int d0), .val (Value.int (v1 - r1)), .val (Value.int d1), .val (Value.int (v2 - r2)), .val (Value.int d2), .val (Value.int q), .val (Value.ref ad1), .val (Value.int (own_dep n10_ V10_ D10_ q)), .val (Value.int (0 : Int32))]) rfl ?_
          show own_G p e below s _ _ _ (T12.setTop (mkF m 357 #[.val (Value.int x0), .val (Value.int x1), .val (Value.int x2), .val (Value.int x3), .val (Value.int x4), .val (Value.int x5), .val (Value.int ww), .val (Value.int (((x0.toUInt32 >>> ((7 : Int32) &&& 31).toUInt32).toInt32) &&& (3 : Int32))), .val (Value.int cl), .val (Value.int v0), .val (Value.int v0), .val (Value.int v1), .val (Value.int v2), .val (Value.int cnt), .val (Value.int r0), .val (Value.int r1), .val (Value.int r2), .val (Value.int d0), .val (Value.int (v1 - r1)), .val (Value.int d1), .val (Value.int (v2 - r2)), .val (Value.int d2), .val (Value.int q), .val (Value.ref ad1), .val (Value.int (own_dep n10_ V10_ D10_ q)), .val (Value.int (0 : Int32))] []))
          refine own_iload X12 hx hby at_357 rfl ?_
          show own_G p e below s _ _ _ (T12.setTop (mkF m 359 #[.val (Value.int x0), .val (Value.int x1), .val (Value.int x2), .val (Value.int x3), .val (Value.int x4), .val (Value.int x5), .val (Value.int ww), .val (Value.int (((x0.toUInt32 >>> ((7 : Int32) &&& 31).toUInt32).toInt32) &&& (3 : Int32))), .val (Value.int cl), .val (Value.int v0), .val (Value.int v0), .val (Value.int v1), .val (Value.int v2), .val (Value.int cnt), .val (Value.int r0), .val (Value.int r1), .val (Value.int r2), .val (Value.int d0), .val (Value.int (v1 - r1)), .val (Value.int d1), .val (Value.int (v2 - r2)), .val (Value.int d2), .val (Value.int q), .val (Value.ref ad1), .val (Value.int (own_dep n10_ V10_ D10_ q)), .val (Value.int (0 : Int32))] [(Value.int q)]))
          refine own_iload X12 hx hby at_359 rfl ?_
          show own_G p e below s _ _ _ (T12.setTop (mkF m 361 #[.val (Value.int x0), .val (Value.int x1), .val (Value.int x2), .val (Value.int x3), .val (Value.int x4), .val (Value.int x5), .val (Value.int ww), .val (Value.int (((x0.toUInt32 >>> ((7 : Int32) &&& 31).toUInt32).toInt32) &&& (3 : Int32))), .val (Value.int cl), .val (Value.int v0), .val (Value.int v0), .val (Value.int v1), .val (Value.int v2), .val (Value.int cnt), .val (Value.int r0), .val (Value.int r1), .val (Value.int r2), .val (Value.int d0), .val (Value.int (v1 - r1)), .val (Value.int d1), .val (Value.int (v2 - r2)), .val (Value.int d2), .val (Value.int q), .val (Value.ref ad1), .val (Value.int (own_dep n10_ V10_ D10_ q)), .val (Value.int (0 : Int32))] [(Value.int v2), (Value.int q)]))
          refine own_icmp_ne X12 hx hby at_361 (pc' := 377) (by decide) (by decide) (fun hb14 => ?_) (fun hb14 => ?_)
          · show own_G p e below s _ _ _ (T12.setTop (mkF m 377 #[.val (Value.int x0), .val (Value.int x1), .val (Value.int x2), .val (Value.int x3), .val (Value.int x4), .val (Value.int x5), .val (Value.int ww), .val (Value.int (((x0.toUInt32 >>> ((7 : Int32) &&& 31).toUInt32).toInt32) &&& (3 : Int32))), .val (Value.int cl), .val (Value.int v0), .val (Value.int v0), .val (Value.int v1), .val (Value.int v2), .val (Value.int cnt), .val (Value.int r0), .val (Value.int r1), .val (Value.int r2), .val (Value.int d0), .val (Value.int (v1 - r1)), .val (Value.int d1), .val (Value.int (v2 - r2)), .val (Value.int d2), .val (Value.int q), .val (Value.ref ad1), .val (Value.int (own_dep n10_ V10_ D10_ q)), .val (Value.int (0 : Int32))] []))
            refine own_iload X12 hx hby at_377 rfl ?_
            show own_G p e below s _ _ _ (T12.setTop (mkF m 379 #[.val (Value.int x0), .val (Value.int x1), .val (Value.int x2), .val (Value.int x3), .val (Value.int x4), .val (Value.int x5), .val (Value.int ww), .val (Value.int (((x0.toUInt32 >>> ((7 : Int32) &&& 31).toUInt32).toInt32) &&& (3 : Int32))), .val (Value.int cl), .val (Value.int v0), .val (Value.int v0), .val (Value.int v1), .val (Value.int v2), .val (Value.int cnt), .val (Value.int r0), .val (Value.int r1), .val (Value.int r2), .val (Value.int d0), .val (Value.int (v1 - r1)), .val (Value.int d1), .val (Value.int (v2 - r2)), .val (Value.int d2), .val (Value.int q), .val (Value.ref ad1), .val (Value.int (own_dep n10_ V10_ D10_ q)), .val (Value.int (0 : Int32))] [(Value.int q)]))
            refine own_iload X12 hx hby at_379 rfl ?_
            show own_G p e below s _ _ _ (T12.setTop (mkF m 381 #[.val (Value.int x0), .val (Value.int x1), .val (Value.int x2), .val (Value.int x3), .val (Value.int x4), .val (Value.int x5), .val (Value.int ww), .val (Value.int (((x0.toUInt32 >>> ((7 : Int32) &&& 31).toUInt32).toInt32) &&& (3 : Int32))), .val (Value.int cl), .val (Value.int v0), .val (Value.int v0), .val (Value.int v1), .val (Value.int v2), .val (Value.int cnt), .val (Value.int r0), .val (Value.int r1), .val (Value.int r2), .val (Value.int d0), .val (Value.int (v1 - r1)), .val (Value.int d1), .val (Value.int (v2 - r2)), .val (Value.int d2), .val (Value.int q), .val (Value.ref ad1), .val (Value.int (own_dep n10_ V10_ D10_ q)), .val (Value.int (0 : Int32))] [(Value.int v1), (Value.int q)]))
            refine own_icmp_ne X12 hx hby at_381 (pc' := 422) (by decide) (by decide) (fun hb15 => ?_) (fun hb15 => ?_)
            · show own_G p e below s _ _ _ (T12.setTop (mkF m 422 #[.val (Value.int x0), .val (Value.int x1), .val (Value.int x2), .val (Value.int x3), .val (Value.int x4), .val (Value.int x5), .val (Value.int ww), .val (Value.int (((x0.toUInt32 >>> ((7 : Int32) &&& 31).toUInt32).toInt32) &&& (3 : Int32))), .val (Value.int cl), .val (Value.int v0), .val (Value.int v0), .val (Value.int v1), .val (Value.int v2), .val (Value.int cnt), .val (Value.int r0), .val (Value.int r1), .val (Value.int r2), .val (Value.int d0), .val (Value.int (v1 - r1)), .val (Value.int d1), .val (Value.int (v2 - r2)), .val (Value.int d2), .val (Value.int q), .val (Value.ref ad1), .val (Value.int (own_dep n10_ V10_ D10_ q)), .val (Value.int (0 : Int32))] []))
              refine own_iload X12 hx hby at_422 rfl ?_
              show own_G p e below s _ _ _ (T12.setTop (mkF m 424 #[.val (Value.int x0), .val (Value.int x1), .val (Value.int x2), .val (Value.int x3), .val (Value.int x4), .val (Value.int x5), .val (Value.int ww), .val (Value.int (((x0.toUInt32 >>> ((7 : Int32) &&& 31).toUInt32).toInt32) &&& (3 : Int32))), .val (Value.int cl), .val (Value.int v0), .val (Value.int v0), .val (Value.int v1), .val (Value.int v2), .val (Value.int cnt), .val (Value.int r0), .val (Value.int r1), .val (Value.int r2), .val (Value.int d0), .val (Value.int (v1 - r1)), .val (Value.int d1), .val (Value.int (v2 - r2)), .val (Value.int d2), .val (Value.int q), .val (Value.ref ad1), .val (Value.int (own_dep n10_ V10_ D10_ q)), .val (Value.int (0 : Int32))] [(Value.int q)]))
              refine own_iload X12 hx hby at_424 rfl ?_
              show own_G p e below s _ _ _ (T12.setTop (mkF m 426 #[.val (Value.int x0), .val (Value.int x1), .val (Value.int x2), .val (Value.int x3), .val (Value.int x4), .val (Value.int x5), .val (Value.int ww), .val (Value.int (((x0.toUInt32 >>> ((7 : Int32) &&& 31).toUInt32).toInt32) &&& (3 : Int32))), .val (Value.int cl), .val (Value.int v0), .val (Value.int v0), .val (Value.int v1), .val (Value.int v2), .val (Value.int cnt), .val (Value.int r0), .val (Value.int r1), .val (Value.int r2), .val (Value.int d0), .val (Value.int (v1 - r1)), .val (Value.int d1), .val (Value.int (v2 - r2)), .val (Value.int d2), .val (Value.int q), .val (Value.ref ad1), .val (Value.int (own_dep n10_ V10_ D10_ q)), .val (Value.int (0 : Int32))] [(Value.int v0), (Value.int q)]))
              refine own_icmp_ne X12 hx hby at_426 (pc' := 472) (by decide) (by decide) (fun hb16 => ?_) (fun hb16 => ?_)
              · show own_G p e below s _ _ _ (T12.setTop (mkF m 472 #[.val (Value.int x0), .val (Value.int x1), .val (Value.int x2), .val (Value.int x3), .val (Value.int x4), .val (Value.int x5), .val (Value.int ww), .val (Value.int (((x0.toUInt32 >>> ((7 : Int32) &&& 31).toUInt32).toInt32) &&& (3 : Int32))), .val (Value.int cl), .val (Value.int v0), .val (Value.int v0), .val (Value.int v1), .val (Value.int v2), .val (Value.int cnt), .val (Value.int r0), .val (Value.int r1), .val (Value.int r2), .val (Value.int d0), .val (Value.int (v1 - r1)), .val (Value.int d1), .val (Value.int (v2 - r2)), .val (Value.int d2), .val (Value.int q), .val (Value.ref ad1), .val (Value.int (own_dep n10_ V10_ D10_ q)), .val (Value.int (0 : Int32))] []))
                refine own_iload X12 hx hby at_472 rfl ?_
                show own_G p e below s _ _ _ (T12.setTop (mkF m 474 #[.val (Value.int x0), .val (Value.int x1), .val (Value.int x2), .val (Value.int x3), .val (Value.int x4), .val (Value.int x5), .val (Value.int ww), .val (Value.int (((x0.toUInt32 >>> ((7 : Int32) &&& 31).toUInt32).toInt32) &&& (3 : Int32))), .val (Value.int cl), .val (Value.int v0), .val (Value.int v0), .val (Value.int v1), .val (Value.int v2), .val (Value.int cnt), .val (Value.int r0), .val (Value.int r1), .val (Value.int r2), .val (Value.int d0), .val (Value.int (v1 - r1)), .val (Value.int d1), .val (Value.int (v2 - r2)), .val (Value.int d2), .val (Value.int q), .val (Value.ref ad1), .val (Value.int (own_dep n10_ V10_ D10_ q)), .val (Value.int (0 : Int32))] [(Value.int (own_dep n10_ V10_ D10_ q))]))
                refine own_if_ne X12 hx hby at_474 (pc' := 481) (by decide) (by decide) (fun hb17 => by exfalso; exact hb17 (LW.2.2.2 hb14 hb15 (fun z => hb16 z.1))) (fun hb17 => ?_)
                show own_G p e below s _ _ _ (T12.setTop (mkF m 477 #[.val (Value.int x0), .val (Value.int x1), .val (Value.int x2), .val (Value.int x3), .val (Value.int x4), .val (Value.int x5), .val (Value.int ww), .val (Value.int (((x0.toUInt32 >>> ((7 : Int32) &&& 31).toUInt32).toInt32) &&& (3 : Int32))), .val (Value.int cl), .val (Value.int v0), .val (Value.int v0), .val (Value.int v1), .val (Value.int v2), .val (Value.int cnt), .val (Value.int r0), .val (Value.int r1), .val (Value.int r2), .val (Value.int d0), .val (Value.int (v1 - r1)), .val (Value.int d1), .val (Value.int (v2 - r2)), .val (Value.int d2), .val (Value.int q), .val (Value.ref ad1), .val (Value.int (own_dep n10_ V10_ D10_ q)), .val (Value.int (0 : Int32))] []))
                refine own_iconst X12 hx hby at_477 ?_
                show own_G p e below s _ _ _ (T12.setTop (mkF m 478 #[.val (Value.int x0), .val (Value.int x1), .val (Value.int x2), .val (Value.int x3), .val (Value.int x4), .val (Value.int x5), .val (Value.int ww), .val (Value.int (((x0.toUInt32 >>> ((7 : Int32) &&& 31).toUInt32).toInt32) &&& (3 : Int32))), .val (Value.int cl), .val (Value.int v0), .val (Value.int v0), .val (Value.int v1), .val (Value.int v2), .val (Value.int cnt), .val (Value.int r0), .val (Value.int r1), .val (Value.int r2), .val (Value.int d0), .val (Value.int (v1 - r1)), .val (Value.int d1), .val (Value.int (v2 - r2)), .val (Value.int d2), .val (Value.int q), .val (Value.ref ad1), .val (Value.int (own_dep n10_ V10_ D10_ q)), .val (Value.int (0 : Int32))] [(Value.int (1 : Int32))]))
                refine own_goto X12 hx hby at_478 (pc' := 482) (by decide) (by decide) ?_
                show own_G p e below s _ _ _ (T12.setTop (mkF m 482 #[.val (Value.int x0), .val (Value.int x1), .val (Value.int x2), .val (Value.int x3), .val (Value.int x4), .val (Value.int x5), .val (Value.int ww), .val (Value.int (((x0.toUInt32 >>> ((7 : Int32) &&& 31).toUInt32).toInt32) &&& (3 : Int32))), .val (Value.int cl), .val (Value.int v0), .val (Value.int v0), .val (Value.int v1), .val (Value.int v2), .val (Value.int cnt), .val (Value.int r0), .val (Value.int r1), .val (Value.int r2), .val (Value.int d0), .val (Value.int (v1 - r1)), .val (Value.int d1), .val (Value.int (v2 - r2)), .val (Value.int d2), .val (Value.int q), .val (Value.ref ad1), .val (Value.int (own_dep n10_ V10_ D10_ q)), .val (Value.int (0 : Int32))] [(Value.int (1 : Int32))]))
                refine own_retN X12 hx hby hlk (t := .boolean) Bd.returns (by simp) at_482 (by decide) (by decide) ?_
                exact ⟨rfl, N12⟩
              · show own_G p e below s _ _ _ (T12.setTop (mkF m 429 #[.val (Value.int x0), .val (Value.int x1), .val (Value.int x2), .val (Value.int x3), .val (Value.int x4), .val (Value.int x5), .val (Value.int ww), .val (Value.int (((x0.toUInt32 >>> ((7 : Int32) &&& 31).toUInt32).toInt32) &&& (3 : Int32))), .val (Value.int cl), .val (Value.int v0), .val (Value.int v0), .val (Value.int v1), .val (Value.int v2), .val (Value.int cnt), .val (Value.int r0), .val (Value.int r1), .val (Value.int r2), .val (Value.int d0), .val (Value.int (v1 - r1)), .val (Value.int d1), .val (Value.int (v2 - r2)), .val (Value.int d2), .val (Value.int q), .val (Value.ref ad1), .val (Value.int (own_dep n10_ V10_ D10_ q)), .val (Value.int (0 : Int32))] []))
                refine own_iload X12 hx hby at_429 rfl ?_
                show own_G p e below s _ _ _ (T12.setTop (mkF m 431 #[.val (Value.int x0), .val (Value.int x1), .val (Value.int x2), .val (Value.int x3), .val (Value.int x4), .val (Value.int x5), .val (Value.int ww), .val (Value.int (((x0.toUInt32 >>> ((7 : Int32) &&& 31).toUInt32).toInt32) &&& (3 : Int32))), .val (Value.int cl), .val (Value.int v0), .val (Value.int v0), .val (Value.int v1), .val (Value.int v2), .val (Value.int cnt), .val (Value.int r0), .val (Value.int r1), .val (Value.int r2), .val (Value.int d0), .val (Value.int (v1 - r1)), .val (Value.int d1), .val (Value.int (v2 - r2)), .val (Value.int d2), .val (Value.int q), .val (Value.ref ad1), .val (Value.int (own_dep n10_ V10_ D10_ q)), .val (Value.int (0 : Int32))] [(Value.int cl)]))
                refine own_if_ne X12 hx hby at_431 (pc' := 472) (by decide) (by decide) (fun hb18 => by exfalso; first | exact hb18 hb7 | exact hb7 hb18) (fun hb18 => ?_)
                show own_G p e below s _ _ _ (T12.setTop (mkF m 434 #[.val (Value.int x0), .val (Value.int x1), .val (Value.int x2), .val (Value.int x3), .val (Value.int x4), .val (Value.int x5), .val (Value.int ww), .val (Value.int (((x0.toUInt32 >>> ((7 : Int32) &&& 31).toUInt32).toInt32) &&& (3 : Int32))), .val (Value.int cl), .val (Value.int v0), .val (Value.int v0), .val (Value.int v1), .val (Value.int v2), .val (Value.int cnt), .val (Value.int r0), .val (Value.int r1), .val (Value.int r2), .val (Value.int d0), .val (Value.int (v1 - r1)), .val (Value.int d1), .val (Value.int (v2 - r2)), .val (Value.int d2), .val (Value.int q), .val (Value.ref ad1), .val (Value.int (own_dep n10_ V10_ D10_ q)), .val (Value.int (0 : Int32))] []))
                refine own_iload X12 hx hby at_434 rfl ?_
                show own_G p e below s _ _ _ (T12.setTop (mkF m 436 #[.val (Value.int x0), .val (Value.int x1), .val (Value.int x2), .val (Value.int x3), .val (Value.int x4), .val (Value.int x5), .val (Value.int ww), .val (Value.int (((x0.toUInt32 >>> ((7 : Int32) &&& 31).toUInt32).toInt32) &&& (3 : Int32))), .val (Value.int cl), .val (Value.int v0), .val (Value.int v0), .val (Value.int v1), .val (Value.int v2), .val (Value.int cnt), .val (Value.int r0), .val (Value.int r1), .val (Value.int r2), .val (Value.int d0), .val (Value.int (v1 - r1)), .val (Value.int d1), .val (Value.int (v2 - r2)), .val (Value.int d2), .val (Value.int q), .val (Value.ref ad1), .val (Value.int (own_dep n10_ V10_ D10_ q)), .val (Value.int (0 : Int32))] [(Value.int (0 : Int32))]))
                refine own_if_eq X12 hx hby at_436 (pc' := 454) (by decide) (by decide) (fun hb19 => ?_) (fun hb19 => by exfalso; revert hb19; decide)
                show own_G p e below s _ _ _ (T12.setTop (mkF m 454 #[.val (Value.int x0), .val (Value.int x1), .val (Value.int x2), .val (Value.int x3), .val (Value.int x4), .val (Value.int x5), .val (Value.int ww), .val (Value.int (((x0.toUInt32 >>> ((7 : Int32) &&& 31).toUInt32).toInt32) &&& (3 : Int32))), .val (Value.int cl), .val (Value.int v0), .val (Value.int v0), .val (Value.int v1), .val (Value.int v2), .val (Value.int cnt), .val (Value.int r0), .val (Value.int r1), .val (Value.int r2), .val (Value.int d0), .val (Value.int (v1 - r1)), .val (Value.int d1), .val (Value.int (v2 - r2)), .val (Value.int d2), .val (Value.int q), .val (Value.ref ad1), .val (Value.int (own_dep n10_ V10_ D10_ q)), .val (Value.int (0 : Int32))] []))
                refine own_iload X12 hx hby at_454 rfl ?_
                show own_G p e below s _ _ _ (T12.setTop (mkF m 456 #[.val (Value.int x0), .val (Value.int x1), .val (Value.int x2), .val (Value.int x3), .val (Value.int x4), .val (Value.int x5), .val (Value.int ww), .val (Value.int (((x0.toUInt32 >>> ((7 : Int32) &&& 31).toUInt32).toInt32) &&& (3 : Int32))), .val (Value.int cl), .val (Value.int v0), .val (Value.int v0), .val (Value.int v1), .val (Value.int v2), .val (Value.int cnt), .val (Value.int r0), .val (Value.int r1), .val (Value.int r2), .val (Value.int d0), .val (Value.int (v1 - r1)), .val (Value.int d1), .val (Value.int (v2 - r2)), .val (Value.int d2), .val (Value.int q), .val (Value.ref ad1), .val (Value.int (own_dep n10_ V10_ D10_ q)), .val (Value.int (0 : Int32))] [(Value.int (own_dep n10_ V10_ D10_ q))]))
                refine own_if_eq X12 hx hby at_456 (pc' := 466) (by decide) (by decide) (fun hb20 => ?_) (fun hb20 => ?_)
                · show own_G p e below s _ _ _ (T12.setTop (mkF m 466 #[.val (Value.int x0), .val (Value.int x1), .val (Value.int x2), .val (Value.int x3), .val (Value.int x4), .val (Value.int x5), .val (Value.int ww), .val (Value.int (((x0.toUInt32 >>> ((7 : Int32) &&& 31).toUInt32).toInt32) &&& (3 : Int32))), .val (Value.int cl), .val (Value.int v0), .val (Value.int v0), .val (Value.int v1), .val (Value.int v2), .val (Value.int cnt), .val (Value.int r0), .val (Value.int r1), .val (Value.int r2), .val (Value.int d0), .val (Value.int (v1 - r1)), .val (Value.int d1), .val (Value.int (v2 - r2)), .val (Value.int d2), .val (Value.int q), .val (Value.ref ad1), .val (Value.int (own_dep n10_ V10_ D10_ q)), .val (Value.int (0 : Int32))] []))
                  refine own_iconst X12 hx hby at_466 ?_
                  show own_G p e below s _ _ _ (T12.setTop (mkF m 467 #[.val (Value.int x0), .val (Value.int x1), .val (Value.int x2), .val (Value.int x3), .val (Value.int x4), .val (Value.int x5), .val (Value.int ww), .val (Value.int (((x0.toUInt32 >>> ((7 : Int32) &&& 31).toUInt32).toInt32) &&& (3 : Int32))), .val (Value.int cl), .val (Value.int v0), .val (Value.int v0), .val (Value.int v1), .val (Value.int v2), .val (Value.int cnt), .val (Value.int r0), .val (Value.int r1), .val (Value.int r2), .val (Value.int d0), .val (Value.int (v1 - r1)), .val (Value.int d1), .val (Value.int (v2 - r2)), .val (Value.int d2), .val (Value.int q), .val (Value.ref ad1), .val (Value.int (own_dep n10_ V10_ D10_ q)), .val (Value.int (0 : Int32))] [(Value.int (1 : Int32))]))
                  refine own_goto X12 hx hby at_467 (pc' := 471) (by decide) (by decide) ?_
                  show own_G p e below s _ _ _ (T12.setTop (mkF m 471 #[.val (Value.int x0), .val (Value.int x1), .val (Value.int x2), .val (Value.int x3), .val (Value.int x4), .val (Value.int x5), .val (Value.int ww), .val (Value.int (((x0.toUInt32 >>> ((7 : Int32) &&& 31).toUInt32).toInt32) &&& (3 : Int32))), .val (Value.int cl), .val (Value.int v0), .val (Value.int v0), .val (Value.int v1), .val (Value.int v2), .val (Value.int cnt), .val (Value.int r0), .val (Value.int r1), .val (Value.int r2), .val (Value.int d0), .val (Value.int (v1 - r1)), .val (Value.int d1), .val (Value.int (v2 - r2)), .val (Value.int d2), .val (Value.int q), .val (Value.ref ad1), .val (Value.int (own_dep n10_ V10_ D10_ q)), .val (Value.int (0 : Int32))] [(Value.int (1 : Int32))]))
                  refine own_retN X12 hx hby hlk (t := .boolean) Bd.returns (by simp) at_471 (by decide) (by decide) ?_
                  exact ⟨rfl, N12⟩
                · show own_G p e below s _ _ _ (T12.setTop (mkF m 459 #[.val (Value.int x0), .val (Value.int x1), .val (Value.int x2), .val (Value.int x3), .val (Value.int x4), .val (Value.int x5), .val (Value.int ww), .val (Value.int (((x0.toUInt32 >>> ((7 : Int32) &&& 31).toUInt32).toInt32) &&& (3 : Int32))), .val (Value.int cl), .val (Value.int v0), .val (Value.int v0), .val (Value.int v1), .val (Value.int v2), .val (Value.int cnt), .val (Value.int r0), .val (Value.int r1), .val (Value.int r2), .val (Value.int d0), .val (Value.int (v1 - r1)), .val (Value.int d1), .val (Value.int (v2 - r2)), .val (Value.int d2), .val (Value.int q), .val (Value.ref ad1), .val (Value.int (own_dep n10_ V10_ D10_ q)), .val (Value.int (0 : Int32))] []))
                  refine own_iload X12 hx hby at_459 rfl ?_
                  show own_G p e below s _ _ _ (T12.setTop (mkF m 461 #[.val (Value.int x0), .val (Value.int x1), .val (Value.int x2), .val (Value.int x3), .val (Value.int x4), .val (Value.int x5), .val (Value.int ww), .val (Value.int (((x0.toUInt32 >>> ((7 : Int32) &&& 31).toUInt32).toInt32) &&& (3 : Int32))), .val (Value.int cl), .val (Value.int v0), .val (Value.int v0), .val (Value.int v1), .val (Value.int v2), .val (Value.int cnt), .val (Value.int r0), .val (Value.int r1), .val (Value.int r2), .val (Value.int d0), .val (Value.int (v1 - r1)), .val (Value.int d1), .val (Value.int (v2 - r2)), .val (Value.int d2), .val (Value.int q), .val (Value.ref ad1), .val (Value.int (own_dep n10_ V10_ D10_ q)), .val (Value.int (0 : Int32))] [(Value.int (own_dep n10_ V10_ D10_ q))]))
                  refine own_iload X12 hx hby at_461 rfl ?_
                  show own_G p e below s _ _ _ (T12.setTop (mkF m 463 #[.val (Value.int x0), .val (Value.int x1), .val (Value.int x2), .val (Value.int x3), .val (Value.int x4), .val (Value.int x5), .val (Value.int ww), .val (Value.int (((x0.toUInt32 >>> ((7 : Int32) &&& 31).toUInt32).toInt32) &&& (3 : Int32))), .val (Value.int cl), .val (Value.int v0), .val (Value.int v0), .val (Value.int v1), .val (Value.int v2), .val (Value.int cnt), .val (Value.int r0), .val (Value.int r1), .val (Value.int r2), .val (Value.int d0), .val (Value.int (v1 - r1)), .val (Value.int d1), .val (Value.int (v2 - r2)), .val (Value.int d2), .val (Value.int q), .val (Value.ref ad1), .val (Value.int (own_dep n10_ V10_ D10_ q)), .val (Value.int (0 : Int32))] [(Value.int d0), (Value.int (own_dep n10_ V10_ D10_ q))]))
                  refine own_icmp_ne X12 hx hby at_463 (pc' := 470) (by decide) (by decide) (fun hb21 => by exfalso; rcases (LW.2.2.1 hb14 hb15 hb16 hb18).2 with y | y; exact hb20 y; exact hb21 y) (fun hb21 => ?_)
                  show own_G p e below s _ _ _ (T12.setTop (mkF m 466 #[.val (Value.int x0), .val (Value.int x1), .val (Value.int x2), .val (Value.int x3), .val (Value.int x4), .val (Value.int x5), .val (Value.int ww), .val (Value.int (((x0.toUInt32 >>> ((7 : Int32) &&& 31).toUInt32).toInt32) &&& (3 : Int32))), .val (Value.int cl), .val (Value.int v0), .val (Value.int v0), .val (Value.int v1), .val (Value.int v2), .val (Value.int cnt), .val (Value.int r0), .val (Value.int r1), .val (Value.int r2), .val (Value.int d0), .val (Value.int (v1 - r1)), .val (Value.int d1), .val (Value.int (v2 - r2)), .val (Value.int d2), .val (Value.int q), .val (Value.ref ad1), .val (Value.int (own_dep n10_ V10_ D10_ q)), .val (Value.int (0 : Int32))] []))
                  refine own_iconst X12 hx hby at_466 ?_
                  show own_G p e below s _ _ _ (T12.setTop (mkF m 467 #[.val (Value.int x0), .val (Value.int x1), .val (Value.int x2), .val (Value.int x3), .val (Value.int x4), .val (Value.int x5), .val (Value.int ww), .val (Value.int (((x0.toUInt32 >>> ((7 : Int32) &&& 31).toUInt32).toInt32) &&& (3 : Int32))), .val (Value.int cl), .val (Value.int v0), .val (Value.int v0), .val (Value.int v1), .val (Value.int v2), .val (Value.int cnt), .val (Value.int r0), .val (Value.int r1), .val (Value.int r2), .val (Value.int d0), .val (Value.int (v1 - r1)), .val (Value.int d1), .val (Value.int (v2 - r2)), .val (Value.int d2), .val (Value.int q), .val (Value.ref ad1), .val (Value.int (own_dep n10_ V10_ D10_ q)), .val (Value.int (0 : Int32))] [(Value.int (1 : Int32))]))
                  refine own_goto X12 hx hby at_467 (pc' := 471) (by decide) (by decide) ?_
                  show own_G p e below s _ _ _ (T12.setTop (mkF m 471 #[.val (Value.int x0), .val (Value.int x1), .val (Value.int x2), .val (Value.int x3), .val (Value.int x4), .val (Value.int x5), .val (Value.int ww), .val (Value.int (((x0.toUInt32 >>> ((7 : Int32) &&& 31).toUInt32).toInt32) &&& (3 : Int32))), .val (Value.int cl), .val (Value.int v0), .val (Value.int v0), .val (Value.int v1), .val (Value.int v2), .val (Value.int cnt), .val (Value.int r0), .val (Value.int r1), .val (Value.int r2), .val (Value.int d0), .val (Value.int (v1 - r1)), .val (Value.int d1), .val (Value.int (v2 - r2)), .val (Value.int d2), .val (Value.int q), .val (Value.ref ad1), .val (Value.int (own_dep n10_ V10_ D10_ q)), .val (Value.int (0 : Int32))] [(Value.int (1 : Int32))]))
                  refine own_retN X12 hx hby hlk (t := .boolean) Bd.returns (by simp) at_471 (by decide) (by decide) ?_
                  exact ⟨rfl, N12⟩
            · show own_G p e below s _ _ _ (T12.setTop (mkF m 384 #[.val (Value.int x0), .val (Value.int x1), .val (Value.int x2), .val (Value.int x3), .val (Value.int x4), .val (Value.int x5), .val (Value.int ww), .val (Value.int (((x0.toUInt32 >>> ((7 : Int32) &&& 31).toUInt32).toInt32) &&& (3 : Int32))), .val (Value.int cl), .val (Value.int v0), .val (Value.int v0), .val (Value.int v1), .val (Value.int v2), .val (Value.int cnt), .val (Value.int r0), .val (Value.int r1), .val (Value.int r2), .val (Value.int d0), .val (Value.int (v1 - r1)), .val (Value.int d1), .val (Value.int (v2 - r2)), .val (Value.int d2), .val (Value.int q), .val (Value.ref ad1), .val (Value.int (own_dep n10_ V10_ D10_ q)), .val (Value.int (0 : Int32))] []))
              refine own_iload X12 hx hby at_384 rfl ?_
              show own_G p e below s _ _ _ (T12.setTop (mkF m 386 #[.val (Value.int x0), .val (Value.int x1), .val (Value.int x2), .val (Value.int x3), .val (Value.int x4), .val (Value.int x5), .val (Value.int ww), .val (Value.int (((x0.toUInt32 >>> ((7 : Int32) &&& 31).toUInt32).toInt32) &&& (3 : Int32))), .val (Value.int cl), .val (Value.int v0), .val (Value.int v0), .val (Value.int v1), .val (Value.int v2), .val (Value.int cnt), .val (Value.int r0), .val (Value.int r1), .val (Value.int r2), .val (Value.int d0), .val (Value.int (v1 - r1)), .val (Value.int d1), .val (Value.int (v2 - r2)), .val (Value.int d2), .val (Value.int q), .val (Value.ref ad1), .val (Value.int (own_dep n10_ V10_ D10_ q)), .val (Value.int (0 : Int32))] [(Value.int (0 : Int32))]))
              refine own_if_eq X12 hx hby at_386 (pc' := 404) (by decide) (by decide) (fun hb22 => ?_) (fun hb22 => by exfalso; revert hb22; decide)
              show own_G p e below s _ _ _ (T12.setTop (mkF m 404 #[.val (Value.int x0), .val (Value.int x1), .val (Value.int x2), .val (Value.int x3), .val (Value.int x4), .val (Value.int x5), .val (Value.int ww), .val (Value.int (((x0.toUInt32 >>> ((7 : Int32) &&& 31).toUInt32).toInt32) &&& (3 : Int32))), .val (Value.int cl), .val (Value.int v0), .val (Value.int v0), .val (Value.int v1), .val (Value.int v2), .val (Value.int cnt), .val (Value.int r0), .val (Value.int r1), .val (Value.int r2), .val (Value.int d0), .val (Value.int (v1 - r1)), .val (Value.int d1), .val (Value.int (v2 - r2)), .val (Value.int d2), .val (Value.int q), .val (Value.ref ad1), .val (Value.int (own_dep n10_ V10_ D10_ q)), .val (Value.int (0 : Int32))] []))
              refine own_iload X12 hx hby at_404 rfl ?_
              show own_G p e below s _ _ _ (T12.setTop (mkF m 406 #[.val (Value.int x0), .val (Value.int x1), .val (Value.int x2), .val (Value.int x3), .val (Value.int x4), .val (Value.int x5), .val (Value.int ww), .val (Value.int (((x0.toUInt32 >>> ((7 : Int32) &&& 31).toUInt32).toInt32) &&& (3 : Int32))), .val (Value.int cl), .val (Value.int v0), .val (Value.int v0), .val (Value.int v1), .val (Value.int v2), .val (Value.int cnt), .val (Value.int r0), .val (Value.int r1), .val (Value.int r2), .val (Value.int d0), .val (Value.int (v1 - r1)), .val (Value.int d1), .val (Value.int (v2 - r2)), .val (Value.int d2), .val (Value.int q), .val (Value.ref ad1), .val (Value.int (own_dep n10_ V10_ D10_ q)), .val (Value.int (0 : Int32))] [(Value.int (own_dep n10_ V10_ D10_ q))]))
              refine own_if_eq X12 hx hby at_406 (pc' := 416) (by decide) (by decide) (fun hb23 => ?_) (fun hb23 => ?_)
              · show own_G p e below s _ _ _ (T12.setTop (mkF m 416 #[.val (Value.int x0), .val (Value.int x1), .val (Value.int x2), .val (Value.int x3), .val (Value.int x4), .val (Value.int x5), .val (Value.int ww), .val (Value.int (((x0.toUInt32 >>> ((7 : Int32) &&& 31).toUInt32).toInt32) &&& (3 : Int32))), .val (Value.int cl), .val (Value.int v0), .val (Value.int v0), .val (Value.int v1), .val (Value.int v2), .val (Value.int cnt), .val (Value.int r0), .val (Value.int r1), .val (Value.int r2), .val (Value.int d0), .val (Value.int (v1 - r1)), .val (Value.int d1), .val (Value.int (v2 - r2)), .val (Value.int d2), .val (Value.int q), .val (Value.ref ad1), .val (Value.int (own_dep n10_ V10_ D10_ q)), .val (Value.int (0 : Int32))] []))
                refine own_iconst X12 hx hby at_416 ?_
                show own_G p e below s _ _ _ (T12.setTop (mkF m 417 #[.val (Value.int x0), .val (Value.int x1), .val (Value.int x2), .val (Value.int x3), .val (Value.int x4), .val (Value.int x5), .val (Value.int ww), .val (Value.int (((x0.toUInt32 >>> ((7 : Int32) &&& 31).toUInt32).toInt32) &&& (3 : Int32))), .val (Value.int cl), .val (Value.int v0), .val (Value.int v0), .val (Value.int v1), .val (Value.int v2), .val (Value.int cnt), .val (Value.int r0), .val (Value.int r1), .val (Value.int r2), .val (Value.int d0), .val (Value.int (v1 - r1)), .val (Value.int d1), .val (Value.int (v2 - r2)), .val (Value.int d2), .val (Value.int q), .val (Value.ref ad1), .val (Value.int (own_dep n10_ V10_ D10_ q)), .val (Value.int (0 : Int32))] [(Value.int (1 : Int32))]))
                refine own_goto X12 hx hby at_417 (pc' := 421) (by decide) (by decide) ?_
                show own_G p e below s _ _ _ (T12.setTop (mkF m 421 #[.val (Value.int x0), .val (Value.int x1), .val (Value.int x2), .val (Value.int x3), .val (Value.int x4), .val (Value.int x5), .val (Value.int ww), .val (Value.int (((x0.toUInt32 >>> ((7 : Int32) &&& 31).toUInt32).toInt32) &&& (3 : Int32))), .val (Value.int cl), .val (Value.int v0), .val (Value.int v0), .val (Value.int v1), .val (Value.int v2), .val (Value.int cnt), .val (Value.int r0), .val (Value.int r1), .val (Value.int r2), .val (Value.int d0), .val (Value.int (v1 - r1)), .val (Value.int d1), .val (Value.int (v2 - r2)), .val (Value.int d2), .val (Value.int q), .val (Value.ref ad1), .val (Value.int (own_dep n10_ V10_ D10_ q)), .val (Value.int (0 : Int32))] [(Value.int (1 : Int32))]))
                refine own_retN X12 hx hby hlk (t := .boolean) Bd.returns (by simp) at_421 (by decide) (by decide) ?_
                exact ⟨rfl, N12⟩
              · show own_G p e below s _ _ _ (T12.setTop (mkF m 409 #[.val (Value.int x0), .val (Value.int x1), .val (Value.int x2), .val (Value.int x3), .val (Value.int x4), .val (Value.int x5), .val (Value.int ww), .val (Value.int (((x0.toUInt32 >>> ((7 : Int32) &&& 31).toUInt32).toInt32) &&& (3 : Int32))), .val (Value.int cl), .val (Value.int v0), .val (Value.int v0), .val (Value.int v1), .val (Value.int v2), .val (Value.int cnt), .val (Value.int r0), .val (Value.int r1), .val (Value.int r2), .val (Value.int d0), .val (Value.int (v1 - r1)), .val (Value.int d1), .val (Value.int (v2 - r2)), .val (Value.int d2), .val (Value.int q), .val (Value.ref ad1), .val (Value.int (own_dep n10_ V10_ D10_ q)), .val (Value.int (0 : Int32))] []))
                refine own_iload X12 hx hby at_409 rfl ?_
                show own_G p e below s _ _ _ (T12.setTop (mkF m 411 #[.val (Value.int x0), .val (Value.int x1), .val (Value.int x2), .val (Value.int x3), .val (Value.int x4), .val (Value.int x5), .val (Value.int ww), .val (Value.int (((x0.toUInt32 >>> ((7 : Int32) &&& 31).toUInt32).toInt32) &&& (3 : Int32))), .val (Value.int cl), .val (Value.int v0), .val (Value.int v0), .val (Value.int v1), .val (Value.int v2), .val (Value.int cnt), .val (Value.int r0), .val (Value.int r1), .val (Value.int r2), .val (Value.int d0), .val (Value.int (v1 - r1)), .val (Value.int d1), .val (Value.int (v2 - r2)), .val (Value.int d2), .val (Value.int q), .val (Value.ref ad1), .val (Value.int (own_dep n10_ V10_ D10_ q)), .val (Value.int (0 : Int32))] [(Value.int (own_dep n10_ V10_ D10_ q))]))
                refine own_iload X12 hx hby at_411 rfl ?_
                show own_G p e below s _ _ _ (T12.setTop (mkF m 413 #[.val (Value.int x0), .val (Value.int x1), .val (Value.int x2), .val (Value.int x3), .val (Value.int x4), .val (Value.int x5), .val (Value.int ww), .val (Value.int (((x0.toUInt32 >>> ((7 : Int32) &&& 31).toUInt32).toInt32) &&& (3 : Int32))), .val (Value.int cl), .val (Value.int v0), .val (Value.int v0), .val (Value.int v1), .val (Value.int v2), .val (Value.int cnt), .val (Value.int r0), .val (Value.int r1), .val (Value.int r2), .val (Value.int d0), .val (Value.int (v1 - r1)), .val (Value.int d1), .val (Value.int (v2 - r2)), .val (Value.int d2), .val (Value.int q), .val (Value.ref ad1), .val (Value.int (own_dep n10_ V10_ D10_ q)), .val (Value.int (0 : Int32))] [(Value.int d1), (Value.int (own_dep n10_ V10_ D10_ q))]))
                refine own_icmp_ne X12 hx hby at_413 (pc' := 420) (by decide) (by decide) (fun hb24 => by exfalso; rcases (LW.2.1 hb14 hb15).2 with y | y; exact hb23 y; exact hb24 y) (fun hb24 => ?_)
                show own_G p e below s _ _ _ (T12.setTop (mkF m 416 #[.val (Value.int x0), .val (Value.int x1), .val (Value.int x2), .val (Value.int x3), .val (Value.int x4), .val (Value.int x5), .val (Value.int ww), .val (Value.int (((x0.toUInt32 >>> ((7 : Int32) &&& 31).toUInt32).toInt32) &&& (3 : Int32))), .val (Value.int cl), .val (Value.int v0), .val (Value.int v0), .val (Value.int v1), .val (Value.int v2), .val (Value.int cnt), .val (Value.int r0), .val (Value.int r1), .val (Value.int r2), .val (Value.int d0), .val (Value.int (v1 - r1)), .val (Value.int d1), .val (Value.int (v2 - r2)), .val (Value.int d2), .val (Value.int q), .val (Value.ref ad1), .val (Value.int (own_dep n10_ V10_ D10_ q)), .val (Value.int (0 : Int32))] []))
                refine own_iconst X12 hx hby at_416 ?_
                show own_G p e below s _ _ _ (T12.setTop (mkF m 417 #[.val (Value.int x0), .val (Value.int x1), .val (Value.int x2), .val (Value.int x3), .val (Value.int x4), .val (Value.int x5), .val (Value.int ww), .val (Value.int (((x0.toUInt32 >>> ((7 : Int32) &&& 31).toUInt32).toInt32) &&& (3 : Int32))), .val (Value.int cl), .val (Value.int v0), .val (Value.int v0), .val (Value.int v1), .val (Value.int v2), .val (Value.int cnt), .val (Value.int r0), .val (Value.int r1), .val (Value.int r2), .val (Value.int d0), .val (Value.int (v1 - r1)), .val (Value.int d1), .val (Value.int (v2 - r2)), .val (Value.int d2), .val (Value.int q), .val (Value.ref ad1), .val (Value.int (own_dep n10_ V10_ D10_ q)), .val (Value.int (0 : Int32))] [(Value.int (1 : Int32))]))
                refine own_goto X12 hx hby at_417 (pc' := 421) (by decide) (by decide) ?_
                show own_G p e below s _ _ _ (T12.setTop (mkF m 421 #[.val (Value.int x0), .val (Value.int x1), .val (Value.int x2), .val (Value.int x3), .val (Value.int x4), .val (Value.int x5), .val (Value.int ww), .val (Value.int (((x0.toUInt32 >>> ((7 : Int32) &&& 31).toUInt32).toInt32) &&& (3 : Int32))), .val (Value.int cl), .val (Value.int v0), .val (Value.int v0), .val (Value.int v1), .val (Value.int v2), .val (Value.int cnt), .val (Value.int r0), .val (Value.int r1), .val (Value.int r2), .val (Value.int d0), .val (Value.int (v1 - r1)), .val (Value.int d1), .val (Value.int (v2 - r2)), .val (Value.int d2), .val (Value.int q), .val (Value.ref ad1), .val (Value.int (own_dep n10_ V10_ D10_ q)), .val (Value.int (0 : Int32))] [(Value.int (1 : Int32))]))
                refine own_retN X12 hx hby hlk (t := .boolean) Bd.returns (by simp) at_421 (by decide) (by decide) ?_
                exact ⟨rfl, N12⟩
          · show own_G p e below s _ _ _ (T12.setTop (mkF m 364 #[.val (Value.int x0), .val (Value.int x1), .val (Value.int x2), .val (Value.int x3), .val (Value.int x4), .val (Value.int x5), .val (Value.int ww), .val (Value.int (((x0.toUInt32 >>> ((7 : Int32) &&& 31).toUInt32).toInt32) &&& (3 : Int32))), .val (Value.int cl), .val (Value.int v0), .val (Value.int v0), .val (Value.int v1), .val (Value.int v2), .val (Value.int cnt), .val (Value.int r0), .val (Value.int r1), .val (Value.int r2), .val (Value.int d0), .val (Value.int (v1 - r1)), .val (Value.int d1), .val (Value.int (v2 - r2)), .val (Value.int d2), .val (Value.int q), .val (Value.ref ad1), .val (Value.int (own_dep n10_ V10_ D10_ q)), .val (Value.int (0 : Int32))] []))
            refine own_iload X12 hx hby at_364 rfl ?_
            show own_G p e below s _ _ _ (T12.setTop (mkF m 366 #[.val (Value.int x0), .val (Value.int x1), .val (Value.int x2), .val (Value.int x3), .val (Value.int x4), .val (Value.int x5), .val (Value.int ww), .val (Value.int (((x0.toUInt32 >>> ((7 : Int32) &&& 31).toUInt32).toInt32) &&& (3 : Int32))), .val (Value.int cl), .val (Value.int v0), .val (Value.int v0), .val (Value.int v1), .val (Value.int v2), .val (Value.int cnt), .val (Value.int r0), .val (Value.int r1), .val (Value.int r2), .val (Value.int d0), .val (Value.int (v1 - r1)), .val (Value.int d1), .val (Value.int (v2 - r2)), .val (Value.int d2), .val (Value.int q), .val (Value.ref ad1), .val (Value.int (own_dep n10_ V10_ D10_ q)), .val (Value.int (0 : Int32))] [(Value.int (own_dep n10_ V10_ D10_ q))]))
            refine own_iload X12 hx hby at_366 rfl ?_
            show own_G p e below s _ _ _ (T12.setTop (mkF m 368 #[.val (Value.int x0), .val (Value.int x1), .val (Value.int x2), .val (Value.int x3), .val (Value.int x4), .val (Value.int x5), .val (Value.int ww), .val (Value.int (((x0.toUInt32 >>> ((7 : Int32) &&& 31).toUInt32).toInt32) &&& (3 : Int32))), .val (Value.int cl), .val (Value.int v0), .val (Value.int v0), .val (Value.int v1), .val (Value.int v2), .val (Value.int cnt), .val (Value.int r0), .val (Value.int r1), .val (Value.int r2), .val (Value.int d0), .val (Value.int (v1 - r1)), .val (Value.int d1), .val (Value.int (v2 - r2)), .val (Value.int d2), .val (Value.int q), .val (Value.ref ad1), .val (Value.int (own_dep n10_ V10_ D10_ q)), .val (Value.int (0 : Int32))] [(Value.int d2), (Value.int (own_dep n10_ V10_ D10_ q))]))
            refine own_icmp_ne X12 hx hby at_368 (pc' := 375) (by decide) (by decide) (fun hb25 => by exfalso; exact hb25 (LW.1 hb14)) (fun hb25 => ?_)
            show own_G p e below s _ _ _ (T12.setTop (mkF m 371 #[.val (Value.int x0), .val (Value.int x1), .val (Value.int x2), .val (Value.int x3), .val (Value.int x4), .val (Value.int x5), .val (Value.int ww), .val (Value.int (((x0.toUInt32 >>> ((7 : Int32) &&& 31).toUInt32).toInt32) &&& (3 : Int32))), .val (Value.int cl), .val (Value.int v0), .val (Value.int v0), .val (Value.int v1), .val (Value.int v2), .val (Value.int cnt), .val (Value.int r0), .val (Value.int r1), .val (Value.int r2), .val (Value.int d0), .val (Value.int (v1 - r1)), .val (Value.int d1), .val (Value.int (v2 - r2)), .val (Value.int d2), .val (Value.int q), .val (Value.ref ad1), .val (Value.int (own_dep n10_ V10_ D10_ q)), .val (Value.int (0 : Int32))] []))
            refine own_iconst X12 hx hby at_371 ?_
            show own_G p e below s _ _ _ (T12.setTop (mkF m 372 #[.val (Value.int x0), .val (Value.int x1), .val (Value.int x2), .val (Value.int x3), .val (Value.int x4), .val (Value.int x5), .val (Value.int ww), .val (Value.int (((x0.toUInt32 >>> ((7 : Int32) &&& 31).toUInt32).toInt32) &&& (3 : Int32))), .val (Value.int cl), .val (Value.int v0), .val (Value.int v0), .val (Value.int v1), .val (Value.int v2), .val (Value.int cnt), .val (Value.int r0), .val (Value.int r1), .val (Value.int r2), .val (Value.int d0), .val (Value.int (v1 - r1)), .val (Value.int d1), .val (Value.int (v2 - r2)), .val (Value.int d2), .val (Value.int q), .val (Value.ref ad1), .val (Value.int (own_dep n10_ V10_ D10_ q)), .val (Value.int (0 : Int32))] [(Value.int (1 : Int32))]))
            refine own_goto X12 hx hby at_372 (pc' := 376) (by decide) (by decide) ?_
            show own_G p e below s _ _ _ (T12.setTop (mkF m 376 #[.val (Value.int x0), .val (Value.int x1), .val (Value.int x2), .val (Value.int x3), .val (Value.int x4), .val (Value.int x5), .val (Value.int ww), .val (Value.int (((x0.toUInt32 >>> ((7 : Int32) &&& 31).toUInt32).toInt32) &&& (3 : Int32))), .val (Value.int cl), .val (Value.int v0), .val (Value.int v0), .val (Value.int v1), .val (Value.int v2), .val (Value.int cnt), .val (Value.int r0), .val (Value.int r1), .val (Value.int r2), .val (Value.int d0), .val (Value.int (v1 - r1)), .val (Value.int d1), .val (Value.int (v2 - r2)), .val (Value.int d2), .val (Value.int q), .val (Value.ref ad1), .val (Value.int (own_dep n10_ V10_ D10_ q)), .val (Value.int (0 : Int32))] [(Value.int (1 : Int32))]))
            refine own_retN X12 hx hby hlk (t := .boolean) Bd.returns (by simp) at_376 (by decide) (by decide) ?_
            exact ⟨rfl, N12⟩
        · show own_G p e below s _ _ _ (T12.setTop (mkF m 350 #[.val (Value.int x0), .val (Value.int x1), .val (Value.int x2), .val (Value.int x3), .val (Value.int x4), .val (Value.int x5), .val (Value.int ww), .val (Value.int (((x0.toUInt32 >>> ((7 : Int32) &&& 31).toUInt32).toInt32) &&& (3 : Int32))), .val (Value.int cl), .val (Value.int v0), .val (Value.int v0), .val (Value.int v1), .val (Value.int v2), .val (Value.int cnt), .val (Value.int r0), .val (Value.int r1), .val (Value.int r2), .val (Value.int d0), .val (Value.int (v1 - r1)), .val (Value.int d1), .val (Value.int (v2 - r2)), .val (Value.int d2), .val (Value.int q), .val (Value.ref ad1), .val (Value.int (own_dep n10_ V10_ D10_ q)), .unset] []))
          refine own_iconst X12 hx hby at_350 ?_
          show own_G p e below s _ _ _ (T12.setTop (mkF m 351 #[.val (Value.int x0), .val (Value.int x1), .val (Value.int x2), .val (Value.int x3), .val (Value.int x4), .val (Value.int x5), .val (Value.int ww), .val (Value.int (((x0.toUInt32 >>> ((7 : Int32) &&& 31).toUInt32).toInt32) &&& (3 : Int32))), .val (Value.int cl), .val (Value.int v0), .val (Value.int v0), .val (Value.int v1), .val (Value.int v2), .val (Value.int cnt), .val (Value.int r0), .val (Value.int r1), .val (Value.int r2), .val (Value.int d0), .val (Value.int (v1 - r1)), .val (Value.int d1), .val (Value.int (v2 - r2)), .val (Value.int d2), .val (Value.int q), .val (Value.ref ad1), .val (Value.int (own_dep n10_ V10_ D10_ q)), .unset] [(Value.int (1 : Int32))]))
          refine own_goto X12 hx hby at_351 (pc' := 355) (by decide) (by decide) ?_
          show own_G p e below s _ _ _ (T12.setTop (mkF m 355 #[.val (Value.int x0), .val (Value.int x1), .val (Value.int x2), .val (Value.int x3), .val (Value.int x4), .val (Value.int x5), .val (Value.int ww), .val (Value.int (((x0.toUInt32 >>> ((7 : Int32) &&& 31).toUInt32).toInt32) &&& (3 : Int32))), .val (Value.int cl), .val (Value.int v0), .val (Value.int v0), .val (Value.int v1), .val (Value.int v2), .val (Value.int cnt), .val (Value.int r0), .val (Value.int r1), .val (Value.int r2), .val (Value.int d0), .val (Value.int (v1 - r1)), .val (Value.int d1), .val (Value.int (v2 - r2)), .val (Value.int d2), .val (Value.int q), .val (Value.ref ad1), .val (Value.int (own_dep n10_ V10_ D10_ q)), .unset] [(Value.int (1 : Int32))]))
          refine own_istore X12 hx hby at_355 (l' := #[.val (Value.int x0), .val (Value.int x1), .val (Value.int x2), .val (Value.int x3), .val (Value.int x4), .val (Value.int x5), .val (Value.int ww), .val (Value.int (((x0.toUInt32 >>> ((7 : Int32) &&& 31).toUInt32).toInt32) &&& (3 : Int32))), .val (Value.int cl), .val (Value.int v0), .val (Value.int v0), .val (Value.int v1), .val (Value.int v2), .val (Value.int cnt), .val (Value.int r0), .val (Value.int r1), .val (Value.int r2), .val (Value.int d0), .val (Value.int (v1 - r1)), .val (Value.int d1), .val (Value.int (v2 - r2)), .val (Value.int d2), .val (Value.int q), .val (Value.ref ad1), .val (Value.int (own_dep n10_ V10_ D10_ q)), .val (Value.int (1 : Int32))]) rfl ?_
          show own_G p e below s _ _ _ (T12.setTop (mkF m 357 #[.val (Value.int x0), .val (Value.int x1), .val (Value.int x2), .val (Value.int x3), .val (Value.int x4), .val (Value.int x5), .val (Value.int ww), .val (Value.int (((x0.toUInt32 >>> ((7 : Int32) &&& 31).toUInt32).toInt32) &&& (3 : Int32))), .val (Value.int cl), .val (Value.int v0), .val (Value.int v0), .val (Value.int v1), .val (Value.int v2), .val (Value.int cnt), .val (Value.int r0), .val (Value.int r1), .val (Value.int r2), .val (Value.int d0), .val (Value.int (v1 - r1)), .val (Value.int d1), .val (Value.int (v2 - r2)), .val (Value.int d2), .val (Value.int q), .val (Value.ref ad1), .val (Value.int (own_dep n10_ V10_ D10_ q)), .val (Value.int (1 : Int32))] []))
          refine own_iload X12 hx hby at_357 rfl ?_
          show own_G p e below s _ _ _ (T12.setTop (mkF m 359 #[.val (Value.int x0), .val (Value.int x1), .val (Value.int x2), .val (Value.int x3), .val (Value.int x4), .val (Value.int x5), .val (Value.int ww), .val (Value.int (((x0.toUInt32 >>> ((7 : Int32) &&& 31).toUInt32).toInt32) &&& (3 : Int32))), .val (Value.int cl), .val (Value.int v0), .val (Value.int v0), .val (Value.int v1), .val (Value.int v2), .val (Value.int cnt), .val (Value.int r0), .val (Value.int r1), .val (Value.int r2), .val (Value.int d0), .val (Value.int (v1 - r1)), .val (Value.int d1), .val (Value.int (v2 - r2)), .val (Value.int d2), .val (Value.int q), .val (Value.ref ad1), .val (Value.int (own_dep n10_ V10_ D10_ q)), .val (Value.int (1 : Int32))] [(Value.int q)]))
          refine own_iload X12 hx hby at_359 rfl ?_
          show own_G p e below s _ _ _ (T12.setTop (mkF m 361 #[.val (Value.int x0), .val (Value.int x1), .val (Value.int x2), .val (Value.int x3), .val (Value.int x4), .val (Value.int x5), .val (Value.int ww), .val (Value.int (((x0.toUInt32 >>> ((7 : Int32) &&& 31).toUInt32).toInt32) &&& (3 : Int32))), .val (Value.int cl), .val (Value.int v0), .val (Value.int v0), .val (Value.int v1), .val (Value.int v2), .val (Value.int cnt), .val (Value.int r0), .val (Value.int r1), .val (Value.int r2), .val (Value.int d0), .val (Value.int (v1 - r1)), .val (Value.int d1), .val (Value.int (v2 - r2)), .val (Value.int d2), .val (Value.int q), .val (Value.ref ad1), .val (Value.int (own_dep n10_ V10_ D10_ q)), .val (Value.int (1 : Int32))] [(Value.int v2), (Value.int q)]))
          refine own_icmp_ne X12 hx hby at_361 (pc' := 377) (by decide) (by decide) (fun hb26 => ?_) (fun hb26 => ?_)
          · show own_G p e below s _ _ _ (T12.setTop (mkF m 377 #[.val (Value.int x0), .val (Value.int x1), .val (Value.int x2), .val (Value.int x3), .val (Value.int x4), .val (Value.int x5), .val (Value.int ww), .val (Value.int (((x0.toUInt32 >>> ((7 : Int32) &&& 31).toUInt32).toInt32) &&& (3 : Int32))), .val (Value.int cl), .val (Value.int v0), .val (Value.int v0), .val (Value.int v1), .val (Value.int v2), .val (Value.int cnt), .val (Value.int r0), .val (Value.int r1), .val (Value.int r2), .val (Value.int d0), .val (Value.int (v1 - r1)), .val (Value.int d1), .val (Value.int (v2 - r2)), .val (Value.int d2), .val (Value.int q), .val (Value.ref ad1), .val (Value.int (own_dep n10_ V10_ D10_ q)), .val (Value.int (1 : Int32))] []))
            refine own_iload X12 hx hby at_377 rfl ?_
            show own_G p e below s _ _ _ (T12.setTop (mkF m 379 #[.val (Value.int x0), .val (Value.int x1), .val (Value.int x2), .val (Value.int x3), .val (Value.int x4), .val (Value.int x5), .val (Value.int ww), .val (Value.int (((x0.toUInt32 >>> ((7 : Int32) &&& 31).toUInt32).toInt32) &&& (3 : Int32))), .val (Value.int cl), .val (Value.int v0), .val (Value.int v0), .val (Value.int v1), .val (Value.int v2), .val (Value.int cnt), .val (Value.int r0), .val (Value.int r1), .val (Value.int r2), .val (Value.int d0), .val (Value.int (v1 - r1)), .val (Value.int d1), .val (Value.int (v2 - r2)), .val (Value.int d2), .val (Value.int q), .val (Value.ref ad1), .val (Value.int (own_dep n10_ V10_ D10_ q)), .val (Value.int (1 : Int32))] [(Value.int q)]))
            refine own_iload X12 hx hby at_379 rfl ?_
            show own_G p e below s _ _ _ (T12.setTop (mkF m 381 #[.val (Value.int x0), .val (Value.int x1), .val (Value.int x2), .val (Value.int x3), .val (Value.int x4), .val (Value.int x5), .val (Value.int ww), .val (Value.int (((x0.toUInt32 >>> ((7 : Int32) &&& 31).toUInt32).toInt32) &&& (3 : Int32))), .val (Value.int cl), .val (Value.int v0), .val (Value.int v0), .val (Value.int v1), .val (Value.int v2), .val (Value.int cnt), .val (Value.int r0), .val (Value.int r1), .val (Value.int r2), .val (Value.int d0), .val (Value.int (v1 - r1)), .val (Value.int d1), .val (Value.int (v2 - r2)), .val (Value.int d2), .val (Value.int q), .val (Value.ref ad1), .val (Value.int (own_dep n10_ V10_ D10_ q)), .val (Value.int (1 : Int32))] [(Value.int v1), (Value.int q)]))
            refine own_icmp_ne X12 hx hby at_381 (pc' := 422) (by decide) (by decide) (fun hb27 => ?_) (fun hb27 => ?_)
            · show own_G p e below s _ _ _ (T12.setTop (mkF m 422 #[.val (Value.int x0), .val (Value.int x1), .val (Value.int x2), .val (Value.int x3), .val (Value.int x4), .val (Value.int x5), .val (Value.int ww), .val (Value.int (((x0.toUInt32 >>> ((7 : Int32) &&& 31).toUInt32).toInt32) &&& (3 : Int32))), .val (Value.int cl), .val (Value.int v0), .val (Value.int v0), .val (Value.int v1), .val (Value.int v2), .val (Value.int cnt), .val (Value.int r0), .val (Value.int r1), .val (Value.int r2), .val (Value.int d0), .val (Value.int (v1 - r1)), .val (Value.int d1), .val (Value.int (v2 - r2)), .val (Value.int d2), .val (Value.int q), .val (Value.ref ad1), .val (Value.int (own_dep n10_ V10_ D10_ q)), .val (Value.int (1 : Int32))] []))
              refine own_iload X12 hx hby at_422 rfl ?_
              show own_G p e below s _ _ _ (T12.setTop (mkF m 424 #[.val (Value.int x0), .val (Value.int x1), .val (Value.int x2), .val (Value.int x3), .val (Value.int x4), .val (Value.int x5), .val (Value.int ww), .val (Value.int (((x0.toUInt32 >>> ((7 : Int32) &&& 31).toUInt32).toInt32) &&& (3 : Int32))), .val (Value.int cl), .val (Value.int v0), .val (Value.int v0), .val (Value.int v1), .val (Value.int v2), .val (Value.int cnt), .val (Value.int r0), .val (Value.int r1), .val (Value.int r2), .val (Value.int d0), .val (Value.int (v1 - r1)), .val (Value.int d1), .val (Value.int (v2 - r2)), .val (Value.int d2), .val (Value.int q), .val (Value.ref ad1), .val (Value.int (own_dep n10_ V10_ D10_ q)), .val (Value.int (1 : Int32))] [(Value.int q)]))
              refine own_iload X12 hx hby at_424 rfl ?_
              show own_G p e below s _ _ _ (T12.setTop (mkF m 426 #[.val (Value.int x0), .val (Value.int x1), .val (Value.int x2), .val (Value.int x3), .val (Value.int x4), .val (Value.int x5), .val (Value.int ww), .val (Value.int (((x0.toUInt32 >>> ((7 : Int32) &&& 31).toUInt32).toInt32) &&& (3 : Int32))), .val (Value.int cl), .val (Value.int v0), .val (Value.int v0), .val (Value.int v1), .val (Value.int v2), .val (Value.int cnt), .val (Value.int r0), .val (Value.int r1), .val (Value.int r2), .val (Value.int d0), .val (Value.int (v1 - r1)), .val (Value.int d1), .val (Value.int (v2 - r2)), .val (Value.int d2), .val (Value.int q), .val (Value.ref ad1), .val (Value.int (own_dep n10_ V10_ D10_ q)), .val (Value.int (1 : Int32))] [(Value.int v0), (Value.int q)]))
              refine own_icmp_ne X12 hx hby at_426 (pc' := 472) (by decide) (by decide) (fun hb28 => ?_) (fun hb28 => ?_)
              · show own_G p e below s _ _ _ (T12.setTop (mkF m 472 #[.val (Value.int x0), .val (Value.int x1), .val (Value.int x2), .val (Value.int x3), .val (Value.int x4), .val (Value.int x5), .val (Value.int ww), .val (Value.int (((x0.toUInt32 >>> ((7 : Int32) &&& 31).toUInt32).toInt32) &&& (3 : Int32))), .val (Value.int cl), .val (Value.int v0), .val (Value.int v0), .val (Value.int v1), .val (Value.int v2), .val (Value.int cnt), .val (Value.int r0), .val (Value.int r1), .val (Value.int r2), .val (Value.int d0), .val (Value.int (v1 - r1)), .val (Value.int d1), .val (Value.int (v2 - r2)), .val (Value.int d2), .val (Value.int q), .val (Value.ref ad1), .val (Value.int (own_dep n10_ V10_ D10_ q)), .val (Value.int (1 : Int32))] []))
                refine own_iload X12 hx hby at_472 rfl ?_
                show own_G p e below s _ _ _ (T12.setTop (mkF m 474 #[.val (Value.int x0), .val (Value.int x1), .val (Value.int x2), .val (Value.int x3), .val (Value.int x4), .val (Value.int x5), .val (Value.int ww), .val (Value.int (((x0.toUInt32 >>> ((7 : Int32) &&& 31).toUInt32).toInt32) &&& (3 : Int32))), .val (Value.int cl), .val (Value.int v0), .val (Value.int v0), .val (Value.int v1), .val (Value.int v2), .val (Value.int cnt), .val (Value.int r0), .val (Value.int r1), .val (Value.int r2), .val (Value.int d0), .val (Value.int (v1 - r1)), .val (Value.int d1), .val (Value.int (v2 - r2)), .val (Value.int d2), .val (Value.int q), .val (Value.ref ad1), .val (Value.int (own_dep n10_ V10_ D10_ q)), .val (Value.int (1 : Int32))] [(Value.int (own_dep n10_ V10_ D10_ q))]))
                refine own_if_ne X12 hx hby at_474 (pc' := 481) (by decide) (by decide) (fun hb29 => by exfalso; exact hb29 (LW.2.2.2 hb26 hb27 (fun z => hb28 z.1))) (fun hb29 => ?_)
                show own_G p e below s _ _ _ (T12.setTop (mkF m 477 #[.val (Value.int x0), .val (Value.int x1), .val (Value.int x2), .val (Value.int x3), .val (Value.int x4), .val (Value.int x5), .val (Value.int ww), .val (Value.int (((x0.toUInt32 >>> ((7 : Int32) &&& 31).toUInt32).toInt32) &&& (3 : Int32))), .val (Value.int cl), .val (Value.int v0), .val (Value.int v0), .val (Value.int v1), .val (Value.int v2), .val (Value.int cnt), .val (Value.int r0), .val (Value.int r1), .val (Value.int r2), .val (Value.int d0), .val (Value.int (v1 - r1)), .val (Value.int d1), .val (Value.int (v2 - r2)), .val (Value.int d2), .val (Value.int q), .val (Value.ref ad1), .val (Value.int (own_dep n10_ V10_ D10_ q)), .val (Value.int (1 : Int32))] []))
                refine own_iconst X12 hx hby at_477 ?_
                show own_G p e below s _ _ _ (T12.setTop (mkF m 478 #[.val (Value.int x0), .val (Value.int x1), .val (Value.int x2), .val (Value.int x3), .val (Value.int x4), .val (Value.int x5), .val (Value.int ww), .val (Value.int (((x0.toUInt32 >>> ((7 : Int32) &&& 31).toUInt32).toInt32) &&& (3 : Int32))), .val (Value.int cl), .val (Value.int v0), .val (Value.int v0), .val (Value.int v1), .val (Value.int v2), .val (Value.int cnt), .val (Value.int r0), .val (Value.int r1), .val (Value.int r2), .val (Value.int d0), .val (Value.int (v1 - r1)), .val (Value.int d1), .val (Value.int (v2 - r2)), .val (Value.int d2), .val (Value.int q), .val (Value.ref ad1), .val (Value.int (own_dep n10_ V10_ D10_ q)), .val (Value.int (1 : Int32))] [(Value.int (1 : Int32))]))
                refine own_goto X12 hx hby at_478 (pc' := 482) (by decide) (by decide) ?_
                show own_G p e below s _ _ _ (T12.setTop (mkF m 482 #[.val (Value.int x0), .val (Value.int x1), .val (Value.int x2), .val (Value.int x3), .val (Value.int x4), .val (Value.int x5), .val (Value.int ww), .val (Value.int (((x0.toUInt32 >>> ((7 : Int32) &&& 31).toUInt32).toInt32) &&& (3 : Int32))), .val (Value.int cl), .val (Value.int v0), .val (Value.int v0), .val (Value.int v1), .val (Value.int v2), .val (Value.int cnt), .val (Value.int r0), .val (Value.int r1), .val (Value.int r2), .val (Value.int d0), .val (Value.int (v1 - r1)), .val (Value.int d1), .val (Value.int (v2 - r2)), .val (Value.int d2), .val (Value.int q), .val (Value.ref ad1), .val (Value.int (own_dep n10_ V10_ D10_ q)), .val (Value.int (1 : Int32))] [(Value.int (1 : Int32))]))
                refine own_retN X12 hx hby hlk (t := .boolean) Bd.returns (by simp) at_482 (by decide) (by decide) ?_
                exact ⟨rfl, N12⟩
              · show own_G p e below s _ _ _ (T12.setTop (mkF m 429 #[.val (Value.int x0), .val (Value.int x1), .val (Value.int x2), .val (Value.int x3), .val (Value.int x4), .val (Value.int x5), .val (Value.int ww), .val (Value.int (((x0.toUInt32 >>> ((7 : Int32) &&& 31).toUInt32).toInt32) &&& (3 : Int32))), .val (Value.int cl), .val (Value.int v0), .val (Value.int v0), .val (Value.int v1), .val (Value.int v2), .val (Value.int cnt), .val (Value.int r0), .val (Value.int r1), .val (Value.int r2), .val (Value.int d0), .val (Value.int (v1 - r1)), .val (Value.int d1), .val (Value.int (v2 - r2)), .val (Value.int d2), .val (Value.int q), .val (Value.ref ad1), .val (Value.int (own_dep n10_ V10_ D10_ q)), .val (Value.int (1 : Int32))] []))
                refine own_iload X12 hx hby at_429 rfl ?_
                show own_G p e below s _ _ _ (T12.setTop (mkF m 431 #[.val (Value.int x0), .val (Value.int x1), .val (Value.int x2), .val (Value.int x3), .val (Value.int x4), .val (Value.int x5), .val (Value.int ww), .val (Value.int (((x0.toUInt32 >>> ((7 : Int32) &&& 31).toUInt32).toInt32) &&& (3 : Int32))), .val (Value.int cl), .val (Value.int v0), .val (Value.int v0), .val (Value.int v1), .val (Value.int v2), .val (Value.int cnt), .val (Value.int r0), .val (Value.int r1), .val (Value.int r2), .val (Value.int d0), .val (Value.int (v1 - r1)), .val (Value.int d1), .val (Value.int (v2 - r2)), .val (Value.int d2), .val (Value.int q), .val (Value.ref ad1), .val (Value.int (own_dep n10_ V10_ D10_ q)), .val (Value.int (1 : Int32))] [(Value.int cl)]))
                refine own_if_ne X12 hx hby at_431 (pc' := 472) (by decide) (by decide) (fun hb30 => by exfalso; first | exact hb30 hb7 | exact hb7 hb30) (fun hb30 => ?_)
                show own_G p e below s _ _ _ (T12.setTop (mkF m 434 #[.val (Value.int x0), .val (Value.int x1), .val (Value.int x2), .val (Value.int x3), .val (Value.int x4), .val (Value.int x5), .val (Value.int ww), .val (Value.int (((x0.toUInt32 >>> ((7 : Int32) &&& 31).toUInt32).toInt32) &&& (3 : Int32))), .val (Value.int cl), .val (Value.int v0), .val (Value.int v0), .val (Value.int v1), .val (Value.int v2), .val (Value.int cnt), .val (Value.int r0), .val (Value.int r1), .val (Value.int r2), .val (Value.int d0), .val (Value.int (v1 - r1)), .val (Value.int d1), .val (Value.int (v2 - r2)), .val (Value.int d2), .val (Value.int q), .val (Value.ref ad1), .val (Value.int (own_dep n10_ V10_ D10_ q)), .val (Value.int (1 : Int32))] []))
                refine own_iload X12 hx hby at_434 rfl ?_
                show own_G p e below s _ _ _ (T12.setTop (mkF m 436 #[.val (Value.int x0), .val (Value.int x1), .val (Value.int x2), .val (Value.int x3), .val (Value.int x4), .val (Value.int x5), .val (Value.int ww), .val (Value.int (((x0.toUInt32 >>> ((7 : Int32) &&& 31).toUInt32).toInt32) &&& (3 : Int32))), .val (Value.int cl), .val (Value.int v0), .val (Value.int v0), .val (Value.int v1), .val (Value.int v2), .val (Value.int cnt), .val (Value.int r0), .val (Value.int r1), .val (Value.int r2), .val (Value.int d0), .val (Value.int (v1 - r1)), .val (Value.int d1), .val (Value.int (v2 - r2)), .val (Value.int d2), .val (Value.int q), .val (Value.ref ad1), .val (Value.int (own_dep n10_ V10_ D10_ q)), .val (Value.int (1 : Int32))] [(Value.int (1 : Int32))]))
                refine own_if_eq X12 hx hby at_436 (pc' := 454) (by decide) (by decide) (fun hb31 => by exfalso; revert hb31; decide) (fun hb31 => ?_)
                show own_G p e below s _ _ _ (T12.setTop (mkF m 439 #[.val (Value.int x0), .val (Value.int x1), .val (Value.int x2), .val (Value.int x3), .val (Value.int x4), .val (Value.int x5), .val (Value.int ww), .val (Value.int (((x0.toUInt32 >>> ((7 : Int32) &&& 31).toUInt32).toInt32) &&& (3 : Int32))), .val (Value.int cl), .val (Value.int v0), .val (Value.int v0), .val (Value.int v1), .val (Value.int v2), .val (Value.int cnt), .val (Value.int r0), .val (Value.int r1), .val (Value.int r2), .val (Value.int d0), .val (Value.int (v1 - r1)), .val (Value.int d1), .val (Value.int (v2 - r2)), .val (Value.int d2), .val (Value.int q), .val (Value.ref ad1), .val (Value.int (own_dep n10_ V10_ D10_ q)), .val (Value.int (1 : Int32))] []))
                refine own_iload X12 hx hby at_439 rfl ?_
                show own_G p e below s _ _ _ (T12.setTop (mkF m 441 #[.val (Value.int x0), .val (Value.int x1), .val (Value.int x2), .val (Value.int x3), .val (Value.int x4), .val (Value.int x5), .val (Value.int ww), .val (Value.int (((x0.toUInt32 >>> ((7 : Int32) &&& 31).toUInt32).toInt32) &&& (3 : Int32))), .val (Value.int cl), .val (Value.int v0), .val (Value.int v0), .val (Value.int v1), .val (Value.int v2), .val (Value.int cnt), .val (Value.int r0), .val (Value.int r1), .val (Value.int r2), .val (Value.int d0), .val (Value.int (v1 - r1)), .val (Value.int d1), .val (Value.int (v2 - r2)), .val (Value.int d2), .val (Value.int q), .val (Value.ref ad1), .val (Value.int (own_dep n10_ V10_ D10_ q)), .val (Value.int (1 : Int32))] [(Value.int (own_dep n10_ V10_ D10_ q))]))
                refine own_iload X12 hx hby at_441 rfl ?_
                show own_G p e below s _ _ _ (T12.setTop (mkF m 443 #[.val (Value.int x0), .val (Value.int x1), .val (Value.int x2), .val (Value.int x3), .val (Value.int x4), .val (Value.int x5), .val (Value.int ww), .val (Value.int (((x0.toUInt32 >>> ((7 : Int32) &&& 31).toUInt32).toInt32) &&& (3 : Int32))), .val (Value.int cl), .val (Value.int v0), .val (Value.int v0), .val (Value.int v1), .val (Value.int v2), .val (Value.int cnt), .val (Value.int r0), .val (Value.int r1), .val (Value.int r2), .val (Value.int d0), .val (Value.int (v1 - r1)), .val (Value.int d1), .val (Value.int (v2 - r2)), .val (Value.int d2), .val (Value.int q), .val (Value.ref ad1), .val (Value.int (own_dep n10_ V10_ D10_ q)), .val (Value.int (1 : Int32))] [(Value.int d0), (Value.int (own_dep n10_ V10_ D10_ q))]))
                refine own_icmp_ne X12 hx hby at_443 (pc' := 450) (by decide) (by decide) (fun hb32 => by exfalso; exact hb32 ((LW.2.2.1 hb26 hb27 hb28 hb30).1 hb13)) (fun hb32 => ?_)
                show own_G p e below s _ _ _ (T12.setTop (mkF m 446 #[.val (Value.int x0), .val (Value.int x1), .val (Value.int x2), .val (Value.int x3), .val (Value.int x4), .val (Value.int x5), .val (Value.int ww), .val (Value.int (((x0.toUInt32 >>> ((7 : Int32) &&& 31).toUInt32).toInt32) &&& (3 : Int32))), .val (Value.int cl), .val (Value.int v0), .val (Value.int v0), .val (Value.int v1), .val (Value.int v2), .val (Value.int cnt), .val (Value.int r0), .val (Value.int r1), .val (Value.int r2), .val (Value.int d0), .val (Value.int (v1 - r1)), .val (Value.int d1), .val (Value.int (v2 - r2)), .val (Value.int d2), .val (Value.int q), .val (Value.ref ad1), .val (Value.int (own_dep n10_ V10_ D10_ q)), .val (Value.int (1 : Int32))] []))
                refine own_iconst X12 hx hby at_446 ?_
                show own_G p e below s _ _ _ (T12.setTop (mkF m 447 #[.val (Value.int x0), .val (Value.int x1), .val (Value.int x2), .val (Value.int x3), .val (Value.int x4), .val (Value.int x5), .val (Value.int ww), .val (Value.int (((x0.toUInt32 >>> ((7 : Int32) &&& 31).toUInt32).toInt32) &&& (3 : Int32))), .val (Value.int cl), .val (Value.int v0), .val (Value.int v0), .val (Value.int v1), .val (Value.int v2), .val (Value.int cnt), .val (Value.int r0), .val (Value.int r1), .val (Value.int r2), .val (Value.int d0), .val (Value.int (v1 - r1)), .val (Value.int d1), .val (Value.int (v2 - r2)), .val (Value.int d2), .val (Value.int q), .val (Value.ref ad1), .val (Value.int (own_dep n10_ V10_ D10_ q)), .val (Value.int (1 : Int32))] [(Value.int (1 : Int32))]))
                refine own_goto X12 hx hby at_447 (pc' := 471) (by decide) (by decide) ?_
                show own_G p e below s _ _ _ (T12.setTop (mkF m 471 #[.val (Value.int x0), .val (Value.int x1), .val (Value.int x2), .val (Value.int x3), .val (Value.int x4), .val (Value.int x5), .val (Value.int ww), .val (Value.int (((x0.toUInt32 >>> ((7 : Int32) &&& 31).toUInt32).toInt32) &&& (3 : Int32))), .val (Value.int cl), .val (Value.int v0), .val (Value.int v0), .val (Value.int v1), .val (Value.int v2), .val (Value.int cnt), .val (Value.int r0), .val (Value.int r1), .val (Value.int r2), .val (Value.int d0), .val (Value.int (v1 - r1)), .val (Value.int d1), .val (Value.int (v2 - r2)), .val (Value.int d2), .val (Value.int q), .val (Value.ref ad1), .val (Value.int (own_dep n10_ V10_ D10_ q)), .val (Value.int (1 : Int32))] [(Value.int (1 : Int32))]))
                refine own_retN X12 hx hby hlk (t := .boolean) Bd.returns (by simp) at_471 (by decide) (by decide) ?_
                exact ⟨rfl, N12⟩
            · show own_G p e below s _ _ _ (T12.setTop (mkF m 384 #[.val (Value.int x0), .val (Value.int x1), .val (Value.int x2), .val (Value.int x3), .val (Value.int x4), .val (Value.int x5), .val (Value.int ww), .val (Value.int (((x0.toUInt32 >>> ((7 : Int32) &&& 31).toUInt32).toInt32) &&& (3 : Int32))), .val (Value.int cl), .val (Value.int v0), .val (Value.int v0), .val (Value.int v1), .val (Value.int v2), .val (Value.int cnt), .val (Value.int r0), .val (Value.int r1), .val (Value.int r2), .val (Value.int d0), .val (Value.int (v1 - r1)), .val (Value.int d1), .val (Value.int (v2 - r2)), .val (Value.int d2), .val (Value.int q), .val (Value.ref ad1), .val (Value.int (own_dep n10_ V10_ D10_ q)), .val (Value.int (1 : Int32))] []))
              refine own_iload X12 hx hby at_384 rfl ?_
              show own_G p e below s _ _ _ (T12.setTop (mkF m 386 #[.val (Value.int x0), .val (Value.int x1), .val (Value.int x2), .val (Value.int x3), .val (Value.int x4), .val (Value.int x5), .val (Value.int ww), .val (Value.int (((x0.toUInt32 >>> ((7 : Int32) &&& 31).toUInt32).toInt32) &&& (3 : Int32))), .val (Value.int cl), .val (Value.int v0), .val (Value.int v0), .val (Value.int v1), .val (Value.int v2), .val (Value.int cnt), .val (Value.int r0), .val (Value.int r1), .val (Value.int r2), .val (Value.int d0), .val (Value.int (v1 - r1)), .val (Value.int d1), .val (Value.int (v2 - r2)), .val (Value.int d2), .val (Value.int q), .val (Value.ref ad1), .val (Value.int (own_dep n10_ V10_ D10_ q)), .val (Value.int (1 : Int32))] [(Value.int (1 : Int32))]))
              refine own_if_eq X12 hx hby at_386 (pc' := 404) (by decide) (by decide) (fun hb33 => by exfalso; revert hb33; decide) (fun hb33 => ?_)
              show own_G p e below s _ _ _ (T12.setTop (mkF m 389 #[.val (Value.int x0), .val (Value.int x1), .val (Value.int x2), .val (Value.int x3), .val (Value.int x4), .val (Value.int x5), .val (Value.int ww), .val (Value.int (((x0.toUInt32 >>> ((7 : Int32) &&& 31).toUInt32).toInt32) &&& (3 : Int32))), .val (Value.int cl), .val (Value.int v0), .val (Value.int v0), .val (Value.int v1), .val (Value.int v2), .val (Value.int cnt), .val (Value.int r0), .val (Value.int r1), .val (Value.int r2), .val (Value.int d0), .val (Value.int (v1 - r1)), .val (Value.int d1), .val (Value.int (v2 - r2)), .val (Value.int d2), .val (Value.int q), .val (Value.ref ad1), .val (Value.int (own_dep n10_ V10_ D10_ q)), .val (Value.int (1 : Int32))] []))
              refine own_iload X12 hx hby at_389 rfl ?_
              show own_G p e below s _ _ _ (T12.setTop (mkF m 391 #[.val (Value.int x0), .val (Value.int x1), .val (Value.int x2), .val (Value.int x3), .val (Value.int x4), .val (Value.int x5), .val (Value.int ww), .val (Value.int (((x0.toUInt32 >>> ((7 : Int32) &&& 31).toUInt32).toInt32) &&& (3 : Int32))), .val (Value.int cl), .val (Value.int v0), .val (Value.int v0), .val (Value.int v1), .val (Value.int v2), .val (Value.int cnt), .val (Value.int r0), .val (Value.int r1), .val (Value.int r2), .val (Value.int d0), .val (Value.int (v1 - r1)), .val (Value.int d1), .val (Value.int (v2 - r2)), .val (Value.int d2), .val (Value.int q), .val (Value.ref ad1), .val (Value.int (own_dep n10_ V10_ D10_ q)), .val (Value.int (1 : Int32))] [(Value.int (own_dep n10_ V10_ D10_ q))]))
              refine own_iload X12 hx hby at_391 rfl ?_
              show own_G p e below s _ _ _ (T12.setTop (mkF m 393 #[.val (Value.int x0), .val (Value.int x1), .val (Value.int x2), .val (Value.int x3), .val (Value.int x4), .val (Value.int x5), .val (Value.int ww), .val (Value.int (((x0.toUInt32 >>> ((7 : Int32) &&& 31).toUInt32).toInt32) &&& (3 : Int32))), .val (Value.int cl), .val (Value.int v0), .val (Value.int v0), .val (Value.int v1), .val (Value.int v2), .val (Value.int cnt), .val (Value.int r0), .val (Value.int r1), .val (Value.int r2), .val (Value.int d0), .val (Value.int (v1 - r1)), .val (Value.int d1), .val (Value.int (v2 - r2)), .val (Value.int d2), .val (Value.int q), .val (Value.ref ad1), .val (Value.int (own_dep n10_ V10_ D10_ q)), .val (Value.int (1 : Int32))] [(Value.int d1), (Value.int (own_dep n10_ V10_ D10_ q))]))
              refine own_icmp_ne X12 hx hby at_393 (pc' := 400) (by decide) (by decide) (fun hb34 => by exfalso; exact hb34 ((LW.2.1 hb26 hb27).1 hb13)) (fun hb34 => ?_)
              show own_G p e below s _ _ _ (T12.setTop (mkF m 396 #[.val (Value.int x0), .val (Value.int x1), .val (Value.int x2), .val (Value.int x3), .val (Value.int x4), .val (Value.int x5), .val (Value.int ww), .val (Value.int (((x0.toUInt32 >>> ((7 : Int32) &&& 31).toUInt32).toInt32) &&& (3 : Int32))), .val (Value.int cl), .val (Value.int v0), .val (Value.int v0), .val (Value.int v1), .val (Value.int v2), .val (Value.int cnt), .val (Value.int r0), .val (Value.int r1), .val (Value.int r2), .val (Value.int d0), .val (Value.int (v1 - r1)), .val (Value.int d1), .val (Value.int (v2 - r2)), .val (Value.int d2), .val (Value.int q), .val (Value.ref ad1), .val (Value.int (own_dep n10_ V10_ D10_ q)), .val (Value.int (1 : Int32))] []))
              refine own_iconst X12 hx hby at_396 ?_
              show own_G p e below s _ _ _ (T12.setTop (mkF m 397 #[.val (Value.int x0), .val (Value.int x1), .val (Value.int x2), .val (Value.int x3), .val (Value.int x4), .val (Value.int x5), .val (Value.int ww), .val (Value.int (((x0.toUInt32 >>> ((7 : Int32) &&& 31).toUInt32).toInt32) &&& (3 : Int32))), .val (Value.int cl), .val (Value.int v0), .val (Value.int v0), .val (Value.int v1), .val (Value.int v2), .val (Value.int cnt), .val (Value.int r0), .val (Value.int r1), .val (Value.int r2), .val (Value.int d0), .val (Value.int (v1 - r1)), .val (Value.int d1), .val (Value.int (v2 - r2)), .val (Value.int d2), .val (Value.int q), .val (Value.ref ad1), .val (Value.int (own_dep n10_ V10_ D10_ q)), .val (Value.int (1 : Int32))] [(Value.int (1 : Int32))]))
              refine own_goto X12 hx hby at_397 (pc' := 421) (by decide) (by decide) ?_
              show own_G p e below s _ _ _ (T12.setTop (mkF m 421 #[.val (Value.int x0), .val (Value.int x1), .val (Value.int x2), .val (Value.int x3), .val (Value.int x4), .val (Value.int x5), .val (Value.int ww), .val (Value.int (((x0.toUInt32 >>> ((7 : Int32) &&& 31).toUInt32).toInt32) &&& (3 : Int32))), .val (Value.int cl), .val (Value.int v0), .val (Value.int v0), .val (Value.int v1), .val (Value.int v2), .val (Value.int cnt), .val (Value.int r0), .val (Value.int r1), .val (Value.int r2), .val (Value.int d0), .val (Value.int (v1 - r1)), .val (Value.int d1), .val (Value.int (v2 - r2)), .val (Value.int d2), .val (Value.int q), .val (Value.ref ad1), .val (Value.int (own_dep n10_ V10_ D10_ q)), .val (Value.int (1 : Int32))] [(Value.int (1 : Int32))]))
              refine own_retN X12 hx hby hlk (t := .boolean) Bd.returns (by simp) at_421 (by decide) (by decide) ?_
              exact ⟨rfl, N12⟩
          · show own_G p e below s _ _ _ (T12.setTop (mkF m 364 #[.val (Value.int x0), .val (Value.int x1), .val (Value.int x2), .val (Value.int x3), .val (Value.int x4), .val (Value.int x5), .val (Value.int ww), .val (Value.int (((x0.toUInt32 >>> ((7 : Int32) &&& 31).toUInt32).toInt32) &&& (3 : Int32))), .val (Value.int cl), .val (Value.int v0), .val (Value.int v0), .val (Value.int v1), .val (Value.int v2), .val (Value.int cnt), .val (Value.int r0), .val (Value.int r1), .val (Value.int r2), .val (Value.int d0), .val (Value.int (v1 - r1)), .val (Value.int d1), .val (Value.int (v2 - r2)), .val (Value.int d2), .val (Value.int q), .val (Value.ref ad1), .val (Value.int (own_dep n10_ V10_ D10_ q)), .val (Value.int (1 : Int32))] []))
            refine own_iload X12 hx hby at_364 rfl ?_
            show own_G p e below s _ _ _ (T12.setTop (mkF m 366 #[.val (Value.int x0), .val (Value.int x1), .val (Value.int x2), .val (Value.int x3), .val (Value.int x4), .val (Value.int x5), .val (Value.int ww), .val (Value.int (((x0.toUInt32 >>> ((7 : Int32) &&& 31).toUInt32).toInt32) &&& (3 : Int32))), .val (Value.int cl), .val (Value.int v0), .val (Value.int v0), .val (Value.int v1), .val (Value.int v2), .val (Value.int cnt), .val (Value.int r0), .val (Value.int r1), .val (Value.int r2), .val (Value.int d0), .val (Value.int (v1 - r1)), .val (Value.int d1), .val (Value.int (v2 - r2)), .val (Value.int d2), .val (Value.int q), .val (Value.ref ad1), .val (Value.int (own_dep n10_ V10_ D10_ q)), .val (Value.int (1 : Int32))] [(Value.int (own_dep n10_ V10_ D10_ q))]))
            refine own_iload X12 hx hby at_366 rfl ?_
            show own_G p e below s _ _ _ (T12.setTop (mkF m 368 #[.val (Value.int x0), .val (Value.int x1), .val (Value.int x2), .val (Value.int x3), .val (Value.int x4), .val (Value.int x5), .val (Value.int ww), .val (Value.int (((x0.toUInt32 >>> ((7 : Int32) &&& 31).toUInt32).toInt32) &&& (3 : Int32))), .val (Value.int cl), .val (Value.int v0), .val (Value.int v0), .val (Value.int v1), .val (Value.int v2), .val (Value.int cnt), .val (Value.int r0), .val (Value.int r1), .val (Value.int r2), .val (Value.int d0), .val (Value.int (v1 - r1)), .val (Value.int d1), .val (Value.int (v2 - r2)), .val (Value.int d2), .val (Value.int q), .val (Value.ref ad1), .val (Value.int (own_dep n10_ V10_ D10_ q)), .val (Value.int (1 : Int32))] [(Value.int d2), (Value.int (own_dep n10_ V10_ D10_ q))]))
            refine own_icmp_ne X12 hx hby at_368 (pc' := 375) (by decide) (by decide) (fun hb35 => by exfalso; exact hb35 (LW.1 hb26)) (fun hb35 => ?_)
            show own_G p e below s _ _ _ (T12.setTop (mkF m 371 #[.val (Value.int x0), .val (Value.int x1), .val (Value.int x2), .val (Value.int x3), .val (Value.int x4), .val (Value.int x5), .val (Value.int ww), .val (Value.int (((x0.toUInt32 >>> ((7 : Int32) &&& 31).toUInt32).toInt32) &&& (3 : Int32))), .val (Value.int cl), .val (Value.int v0), .val (Value.int v0), .val (Value.int v1), .val (Value.int v2), .val (Value.int cnt), .val (Value.int r0), .val (Value.int r1), .val (Value.int r2), .val (Value.int d0), .val (Value.int (v1 - r1)), .val (Value.int d1), .val (Value.int (v2 - r2)), .val (Value.int d2), .val (Value.int q), .val (Value.ref ad1), .val (Value.int (own_dep n10_ V10_ D10_ q)), .val (Value.int (1 : Int32))] []))
            refine own_iconst X12 hx hby at_371 ?_
            show own_G p e below s _ _ _ (T12.setTop (mkF m 372 #[.val (Value.int x0), .val (Value.int x1), .val (Value.int x2), .val (Value.int x3), .val (Value.int x4), .val (Value.int x5), .val (Value.int ww), .val (Value.int (((x0.toUInt32 >>> ((7 : Int32) &&& 31).toUInt32).toInt32) &&& (3 : Int32))), .val (Value.int cl), .val (Value.int v0), .val (Value.int v0), .val (Value.int v1), .val (Value.int v2), .val (Value.int cnt), .val (Value.int r0), .val (Value.int r1), .val (Value.int r2), .val (Value.int d0), .val (Value.int (v1 - r1)), .val (Value.int d1), .val (Value.int (v2 - r2)), .val (Value.int d2), .val (Value.int q), .val (Value.ref ad1), .val (Value.int (own_dep n10_ V10_ D10_ q)), .val (Value.int (1 : Int32))] [(Value.int (1 : Int32))]))
            refine own_goto X12 hx hby at_372 (pc' := 376) (by decide) (by decide) ?_
            show own_G p e below s _ _ _ (T12.setTop (mkF m 376 #[.val (Value.int x0), .val (Value.int x1), .val (Value.int x2), .val (Value.int x3), .val (Value.int x4), .val (Value.int x5), .val (Value.int ww), .val (Value.int (((x0.toUInt32 >>> ((7 : Int32) &&& 31).toUInt32).toInt32) &&& (3 : Int32))), .val (Value.int cl), .val (Value.int v0), .val (Value.int v0), .val (Value.int v1), .val (Value.int v2), .val (Value.int cnt), .val (Value.int r0), .val (Value.int r1), .val (Value.int r2), .val (Value.int d0), .val (Value.int (v1 - r1)), .val (Value.int d1), .val (Value.int (v2 - r2)), .val (Value.int d2), .val (Value.int q), .val (Value.ref ad1), .val (Value.int (own_dep n10_ V10_ D10_ q)), .val (Value.int (1 : Int32))] [(Value.int (1 : Int32))]))
            refine own_retN X12 hx hby hlk (t := .boolean) Bd.returns (by simp) at_376 (by decide) (by decide) ?_
            exact ⟨rfl, N12⟩
      · show own_G p e below s _ _ _ (T5.setTop (mkF m 306 #[.val (Value.int x0), .val (Value.int x1), .val (Value.int x2), .val (Value.int x3), .val (Value.int x4), .val (Value.int x5), .val (Value.int ww), .val (Value.int (((x0.toUInt32 >>> ((7 : Int32) &&& 31).toUInt32).toInt32) &&& (3 : Int32))), .val (Value.int cl), .val (Value.int v0), .val (Value.int v0), .val (Value.int v1), .val (Value.int v2), .val (Value.int cnt), .val (Value.int r0), .val (Value.int r1), .val (Value.int r2), .val (Value.int d0), .val (Value.int (v1 - r1)), .val (Value.int d1), .val (Value.int (v2 - r2)), .val (Value.int d2), .val (Value.int q), .val (Value.ref ad1), .unset, .unset] []))
        refine own_aload X5 hx hby at_306 rfl rfl ?_
        show own_G p e below s _ _ _ (T5.setTop (mkF m 308 #[.val (Value.int x0), .val (Value.int x1), .val (Value.int x2), .val (Value.int x3), .val (Value.int x4), .val (Value.int x5), .val (Value.int ww), .val (Value.int (((x0.toUInt32 >>> ((7 : Int32) &&& 31).toUInt32).toInt32) &&& (3 : Int32))), .val (Value.int cl), .val (Value.int v0), .val (Value.int v0), .val (Value.int v1), .val (Value.int v2), .val (Value.int cnt), .val (Value.int r0), .val (Value.int r1), .val (Value.int r2), .val (Value.int d0), .val (Value.int (v1 - r1)), .val (Value.int d1), .val (Value.int (v2 - r2)), .val (Value.int d2), .val (Value.int q), .val (Value.ref ad1), .unset, .unset] [(Value.ref ad1)]))
        obtain ⟨cq36, kq36, q36a, q36b, q36c⟩ := isOf (T := T5) hZ rfl Eq5
        obtain ⟨_, _, ⟨T36, L36, k36, n36⟩, -, X36, ⟨Lc36, hQ36, l36, y36, z36⟩, st36⟩ := X5.virtualBack hx (y := (⟨"com/example/tuck/tuck/ListWindow", "clear", "()V"⟩ : MethodName)) (z := (⟨"com/example/tuck/tuck/ListWindow", "clear", "()V"⟩ : MethodName)) hown (mvT hZ (own_w57 hw)) (mvT hZ (own_w58 hw)) (notFace_of_selects (args := #[]) (mvT hZ (own_w60 hw))) (mvT hZ (own_w60 hw)) (mvT hZ (own_w59 hw)) (by decide) (backOf (W := 0) (own_rmC l Z a0 hw [] ad1 (own_lm (own_need ww cnt)) kv5 kl5 kd5 n5_ V5_ D5_ T5.heap n0 O6 Eq5 Fl5 Fv5 Fs5 Fd5 Av5 Al5 Ad5 g1n gv5 gl5 gd5 n15 n25 n35 n45 n55 n65 (own_pw_pos hpw5).2) hZ (own_w61 hw) (own_w4 hw) (by decide) (by decide)) q36a q36c (g := (mkF m 308 #[.val (Value.int x0), .val (Value.int x1), .val (Value.int x2), .val (Value.int x3), .val (Value.int x4), .val (Value.int x5), .val (Value.int ww), .val (Value.int (((x0.toUInt32 >>> ((7 : Int32) &&& 31).toUInt32).toInt32) &&& (3 : Int32))), .val (Value.int cl), .val (Value.int v0), .val (Value.int v0), .val (Value.int v1), .val (Value.int v2), .val (Value.int cnt), .val (Value.int r0), .val (Value.int r1), .val (Value.int r2), .val (Value.int d0), .val (Value.int (v1 - r1)), .val (Value.int d1), .val (Value.int (v2 - r2)), .val (Value.int d2), .val (Value.int q), .val (Value.ref ad1), .unset, .unset] [(Value.ref ad1)])) rfl (by rw [hml]; rfl) (Steps.refl _) (argsL := []) (rest := []) (lenOf own_pd4 rfl) rfl (by show 2 * 0 + _ ≤ _; exact Nat.le_of_eq rfl) (hb hby at_308) (fun _ _ => ⟨rfl, rfl, (by decide : (4 : Nat) + 0 ≤ _), (by decide : (196 : Nat) + 0 ≤ _)⟩)
        dsimp only [Pt.U, Pt.locs, Pt.cells, Pt.slots] at X36 l36 y36 z36 st36 hQ36
        subst l36 y36 z36
        obtain ⟨rfl, Nq36, Kq36, Aq36⟩ := hQ36
        have N36 := Fr.app N5 Nq36
        have F37_ad1_limit := Fld.keep Fl5 Kq36 (ninS n15 nin0)
        have F37_ad1_vertices := Fld.keep Fv5 Kq36 (ninS n15 nin0)
        have F37_ad1_lists := Fld.keep Fs5 Kq36 (ninS n15 nin0)
        have F37_ad1_depths := Fld.keep Fd5 Kq36 (ninS n15 nin0)
        have E37_ad1 := Exa.keep Eq5 Kq36
        have A37_kl5 := own_Ar.keep Al5 Kq36 (ninS (Ne.symm n45) nin0)
        have A37_kd5 := own_Ar.keep Ad5 Kq36 (ninS (Ne.symm n55) nin0)
        have O37 := Old.keep O6 Kq36 (allS gv5 all0)
        refine own_tr st36 ?_
        show own_G p e below s _ _ _ (T36.setTop (mkF m 311 #[.val (Value.int x0), .val (Value.int x1), .val (Value.int x2), .val (Value.int x3), .val (Value.int x4), .val (Value.int x5), .val (Value.int ww), .val (Value.int (((x0.toUInt32 >>> ((7 : Int32) &&& 31).toUInt32).toInt32) &&& (3 : Int32))), .val (Value.int cl), .val (Value.int v0), .val (Value.int v0), .val (Value.int v1), .val (Value.int v2), .val (Value.int cnt), .val (Value.int r0), .val (Value.int r1), .val (Value.int r2), .val (Value.int d0), .val (Value.int (v1 - r1)), .val (Value.int d1), .val (Value.int (v2 - r2)), .val (Value.int d2), .val (Value.int q), .val (Value.ref ad1), .unset, .unset] []))
        have hA : ∀ q, own_dep n5_ (fun _ => (-1 : Int32)) D5_ q = if q = v0 ∧ cl = (0 : Int32) then d0 else 0 := fun q => by rw [if_neg (fun z => hb7 z.2)]; exact own_dep_empty _ _ _
        refine own_aload X36 hx hby at_311 rfl rfl ?_
        show own_G p e below s _ _ _ (T36.setTop (mkF m 313 #[.val (Value.int x0), .val (Value.int x1), .val (Value.int x2), .val (Value.int x3), .val (Value.int x4), .val (Value.int x5), .val (Value.int ww), .val (Value.int (((x0.toUInt32 >>> ((7 : Int32) &&& 31).toUInt32).toInt32) &&& (3 : Int32))), .val (Value.int cl), .val (Value.int v0), .val (Value.int v0), .val (Value.int v1), .val (Value.int v2), .val (Value.int cnt), .val (Value.int r0), .val (Value.int r1), .val (Value.int r2), .val (Value.int d0), .val (Value.int (v1 - r1)), .val (Value.int d1), .val (Value.int (v2 - r2)), .val (Value.int d2), .val (Value.int q), .val (Value.ref ad1), .unset, .unset] [(Value.ref ad1)]))
        refine own_iload X36 hx hby at_313 rfl ?_
        show own_G p e below s _ _ _ (T36.setTop (mkF m 315 #[.val (Value.int x0), .val (Value.int x1), .val (Value.int x2), .val (Value.int x3), .val (Value.int x4), .val (Value.int x5), .val (Value.int ww), .val (Value.int (((x0.toUInt32 >>> ((7 : Int32) &&& 31).toUInt32).toInt32) &&& (3 : Int32))), .val (Value.int cl), .val (Value.int v0), .val (Value.int v0), .val (Value.int v1), .val (Value.int v2), .val (Value.int cnt), .val (Value.int r0), .val (Value.int r1), .val (Value.int r2), .val (Value.int d0), .val (Value.int (v1 - r1)), .val (Value.int d1), .val (Value.int (v2 - r2)), .val (Value.int d2), .val (Value.int q), .val (Value.ref ad1), .unset, .unset] [(Value.int v1), (Value.ref ad1)]))
        refine own_aconst_null X36 hx hby at_315 ?_
        show own_G p e below s _ _ _ (T36.setTop (mkF m 316 #[.val (Value.int x0), .val (Value.int x1), .val (Value.int x2), .val (Value.int x3), .val (Value.int x4), .val (Value.int x5), .val (Value.int ww), .val (Value.int (((x0.toUInt32 >>> ((7 : Int32) &&& 31).toUInt32).toInt32) &&& (3 : Int32))), .val (Value.int cl), .val (Value.int v0), .val (Value.int v0), .val (Value.int v1), .val (Value.int v2), .val (Value.int cnt), .val (Value.int r0), .val (Value.int r1), .val (Value.int r2), .val (Value.int d0), .val (Value.int (v1 - r1)), .val (Value.int d1), .val (Value.int (v2 - r2)), .val (Value.int d2), .val (Value.int q), .val (Value.ref ad1), .unset, .unset] [Value.null, (Value.int v1), (Value.ref ad1)]))
        refine own_iload X36 hx hby at_316 rfl ?_
        show own_G p e below s _ _ _ (T36.setTop (mkF m 318 #[.val (Value.int x0), .val (Value.int x1), .val (Value.int x2), .val (Value.int x3), .val (Value.int x4), .val (Value.int x5), .val (Value.int ww), .val (Value.int (((x0.toUInt32 >>> ((7 : Int32) &&& 31).toUInt32).toInt32) &&& (3 : Int32))), .val (Value.int cl), .val (Value.int v0), .val (Value.int v0), .val (Value.int v1), .val (Value.int v2), .val (Value.int cnt), .val (Value.int r0), .val (Value.int r1), .val (Value.int r2), .val (Value.int d0), .val (Value.int (v1 - r1)), .val (Value.int d1), .val (Value.int (v2 - r2)), .val (Value.int d2), .val (Value.int q), .val (Value.ref ad1), .unset, .unset] [(Value.int r1), Value.null, (Value.int v1), (Value.ref ad1)]))
        obtain ⟨cq38, kq38, q38a, q38b, q38c⟩ := isOf (T := T36) hZ rfl E37_ad1
        obtain ⟨_, _, ⟨T38, L38, k38, n38⟩, -, X38, ⟨Lc38, hQ38, l38, y38, z38⟩, st38⟩ := X36.virtualBack hx (y := (⟨"com/example/tuck/tuck/ListWindow", "keep", "(I[II)V"⟩ : MethodName)) (z := (⟨"com/example/tuck/tuck/ListWindow", "keep", "(I[II)V"⟩ : MethodName)) hown (mvT hZ (own_w45 hw)) (mvT hZ (own_w46 hw)) (notFace_of_selects (args := #[]) (mvT hZ (own_w48 hw))) (mvT hZ (own_w48 hw)) (mvT hZ (own_w47 hw)) (by decide) (backOf (W := 0) (own_rmKG l Z a0 hw [] ad1 v1 r1 (own_lm (own_need ww cnt)) kv5 kl5 kd5 n5_ (fun _ => (-1 : Int32)) D5_ T36.heap n0 O37 E37_ad1 F37_ad1_limit F37_ad1_vertices F37_ad1_lists F37_ad1_depths Aq36 A37_kl5 A37_kd5 g1n gv5 gl5 gd5 n15 n25 n35 n45 n55 n65 hpw5 hnl5 (own_In_empty _) hv1n) hZ (own_w49 hw) (own_w4 hw) (by decide) (by decide)) q38a q38c (g := (mkF m 318 #[.val (Value.int x0), .val (Value.int x1), .val (Value.int x2), .val (Value.int x3), .val (Value.int x4), .val (Value.int x5), .val (Value.int ww), .val (Value.int (((x0.toUInt32 >>> ((7 : Int32) &&& 31).toUInt32).toInt32) &&& (3 : Int32))), .val (Value.int cl), .val (Value.int v0), .val (Value.int v0), .val (Value.int v1), .val (Value.int v2), .val (Value.int cnt), .val (Value.int r0), .val (Value.int r1), .val (Value.int r2), .val (Value.int d0), .val (Value.int (v1 - r1)), .val (Value.int d1), .val (Value.int (v2 - r2)), .val (Value.int d2), .val (Value.int q), .val (Value.ref ad1), .unset, .unset] [(Value.int r1), Value.null, (Value.int v1), (Value.ref ad1)])) rfl (by rw [hml]; rfl) (Steps.refl _) (argsL := [(Value.int v1), Value.null, (Value.int r1)]) (rest := []) (lenOf own_pd6 rfl) rfl (by show 2 * 0 + _ ≤ _; exact Nat.le_of_eq rfl) (hb hby at_318) (fun _ _ => ⟨rfl, rfl, (by decide : (4 : Nat) + 3 ≤ _), (by decide : (196 : Nat) + 384 ≤ _)⟩)
        dsimp only [Pt.U, Pt.locs, Pt.cells, Pt.slots] at X38 l38 y38 z38 st38 hQ38
        subst l38 y38 z38
        obtain ⟨rfl, Nq38, Kq38, kv38, kl38, kd38, n38_, V38_, D38_, hpw38, hnl38, hKp38, Eq38, Fl38, Fv38, Fs38, Fd38, Av38, Al38, Ad38, gv38, gl38, gd38, n138, n238, n338, n438, n538, n638⟩ := hQ38
        have N38 := Fr.app N36 Nq38
        have E39_ad1 := Exa.keep E37_ad1 Kq38
        have O39 := Old.keep O37 Kq38 (allS g1n (allS gv5 (allS gl5 (allS gd5 all0))))
        refine own_tr st38 ?_
        show own_G p e below s _ _ _ (T38.setTop (mkF m 321 #[.val (Value.int x0), .val (Value.int x1), .val (Value.int x2), .val (Value.int x3), .val (Value.int x4), .val (Value.int x5), .val (Value.int ww), .val (Value.int (((x0.toUInt32 >>> ((7 : Int32) &&& 31).toUInt32).toInt32) &&& (3 : Int32))), .val (Value.int cl), .val (Value.int v0), .val (Value.int v0), .val (Value.int v1), .val (Value.int v2), .val (Value.int cnt), .val (Value.int r0), .val (Value.int r1), .val (Value.int r2), .val (Value.int d0), .val (Value.int (v1 - r1)), .val (Value.int d1), .val (Value.int (v2 - r2)), .val (Value.int d2), .val (Value.int q), .val (Value.ref ad1), .unset, .unset] []))
        refine own_aload X38 hx hby at_321 rfl rfl ?_
        show own_G p e below s _ _ _ (T38.setTop (mkF m 323 #[.val (Value.int x0), .val (Value.int x1), .val (Value.int x2), .val (Value.int x3), .val (Value.int x4), .val (Value.int x5), .val (Value.int ww), .val (Value.int (((x0.toUInt32 >>> ((7 : Int32) &&& 31).toUInt32).toInt32) &&& (3 : Int32))), .val (Value.int cl), .val (Value.int v0), .val (Value.int v0), .val (Value.int v1), .val (Value.int v2), .val (Value.int cnt), .val (Value.int r0), .val (Value.int r1), .val (Value.int r2), .val (Value.int d0), .val (Value.int (v1 - r1)), .val (Value.int d1), .val (Value.int (v2 - r2)), .val (Value.int d2), .val (Value.int q), .val (Value.ref ad1), .unset, .unset] [(Value.ref ad1)]))
        refine own_iload X38 hx hby at_323 rfl ?_
        show own_G p e below s _ _ _ (T38.setTop (mkF m 325 #[.val (Value.int x0), .val (Value.int x1), .val (Value.int x2), .val (Value.int x3), .val (Value.int x4), .val (Value.int x5), .val (Value.int ww), .val (Value.int (((x0.toUInt32 >>> ((7 : Int32) &&& 31).toUInt32).toInt32) &&& (3 : Int32))), .val (Value.int cl), .val (Value.int v0), .val (Value.int v0), .val (Value.int v1), .val (Value.int v2), .val (Value.int cnt), .val (Value.int r0), .val (Value.int r1), .val (Value.int r2), .val (Value.int d0), .val (Value.int (v1 - r1)), .val (Value.int d1), .val (Value.int (v2 - r2)), .val (Value.int d2), .val (Value.int q), .val (Value.ref ad1), .unset, .unset] [(Value.int v2), (Value.ref ad1)]))
        refine own_aconst_null X38 hx hby at_325 ?_
        show own_G p e below s _ _ _ (T38.setTop (mkF m 326 #[.val (Value.int x0), .val (Value.int x1), .val (Value.int x2), .val (Value.int x3), .val (Value.int x4), .val (Value.int x5), .val (Value.int ww), .val (Value.int (((x0.toUInt32 >>> ((7 : Int32) &&& 31).toUInt32).toInt32) &&& (3 : Int32))), .val (Value.int cl), .val (Value.int v0), .val (Value.int v0), .val (Value.int v1), .val (Value.int v2), .val (Value.int cnt), .val (Value.int r0), .val (Value.int r1), .val (Value.int r2), .val (Value.int d0), .val (Value.int (v1 - r1)), .val (Value.int d1), .val (Value.int (v2 - r2)), .val (Value.int d2), .val (Value.int q), .val (Value.ref ad1), .unset, .unset] [Value.null, (Value.int v2), (Value.ref ad1)]))
        refine own_iload X38 hx hby at_326 rfl ?_
        show own_G p e below s _ _ _ (T38.setTop (mkF m 328 #[.val (Value.int x0), .val (Value.int x1), .val (Value.int x2), .val (Value.int x3), .val (Value.int x4), .val (Value.int x5), .val (Value.int ww), .val (Value.int (((x0.toUInt32 >>> ((7 : Int32) &&& 31).toUInt32).toInt32) &&& (3 : Int32))), .val (Value.int cl), .val (Value.int v0), .val (Value.int v0), .val (Value.int v1), .val (Value.int v2), .val (Value.int cnt), .val (Value.int r0), .val (Value.int r1), .val (Value.int r2), .val (Value.int d0), .val (Value.int (v1 - r1)), .val (Value.int d1), .val (Value.int (v2 - r2)), .val (Value.int d2), .val (Value.int q), .val (Value.ref ad1), .unset, .unset] [(Value.int r2), Value.null, (Value.int v2), (Value.ref ad1)]))
        obtain ⟨cq40, kq40, q40a, q40b, q40c⟩ := isOf (T := T38) hZ rfl Eq38
        obtain ⟨_, _, ⟨T40, L40, k40, n40⟩, -, X40, ⟨Lc40, hQ40, l40, y40, z40⟩, st40⟩ := X38.virtualBack hx (y := (⟨"com/example/tuck/tuck/ListWindow", "keep", "(I[II)V"⟩ : MethodName)) (z := (⟨"com/example/tuck/tuck/ListWindow", "keep", "(I[II)V"⟩ : MethodName)) hown (mvT hZ (own_w45 hw)) (mvT hZ (own_w46 hw)) (notFace_of_selects (args := #[]) (mvT hZ (own_w48 hw))) (mvT hZ (own_w48 hw)) (mvT hZ (own_w47 hw)) (by decide) (backOf (W := 0) (own_rmKG l Z a0 hw [] ad1 v2 r2 (own_lm (own_need ww cnt)) kv38 kl38 kd38 n38_ V38_ D38_ T38.heap n0 O39 Eq38 Fl38 Fv38 Fs38 Fd38 Av38 Al38 Ad38 g1n gv38 gl38 gd38 n138 n238 n338 n438 n538 n638 hpw38 hnl38 hKp38.1 hv2n) hZ (own_w49 hw) (own_w4 hw) (by decide) (by decide)) q40a q40c (g := (mkF m 328 #[.val (Value.int x0), .val (Value.int x1), .val (Value.int x2), .val (Value.int x3), .val (Value.int x4), .val (Value.int x5), .val (Value.int ww), .val (Value.int (((x0.toUInt32 >>> ((7 : Int32) &&& 31).toUInt32).toInt32) &&& (3 : Int32))), .val (Value.int cl), .val (Value.int v0), .val (Value.int v0), .val (Value.int v1), .val (Value.int v2), .val (Value.int cnt), .val (Value.int r0), .val (Value.int r1), .val (Value.int r2), .val (Value.int d0), .val (Value.int (v1 - r1)), .val (Value.int d1), .val (Value.int (v2 - r2)), .val (Value.int d2), .val (Value.int q), .val (Value.ref ad1), .unset, .unset] [(Value.int r2), Value.null, (Value.int v2), (Value.ref ad1)])) rfl (by rw [hml]; rfl) (Steps.refl _) (argsL := [(Value.int v2), Value.null, (Value.int r2)]) (rest := []) (lenOf own_pd6 rfl) rfl (by show 2 * 0 + _ ≤ _; exact Nat.le_of_eq rfl) (hb hby at_328) (fun _ _ => ⟨rfl, rfl, (by decide : (7 : Nat) + 3 ≤ _), (by decide : (580 : Nat) + 384 ≤ _)⟩)
        dsimp only [Pt.U, Pt.locs, Pt.cells, Pt.slots] at X40 l40 y40 z40 st40 hQ40
        subst l40 y40 z40
        obtain ⟨rfl, Nq40, Kq40, kv40, kl40, kd40, n40_, V40_, D40_, hpw40, hnl40, hKp40, Eq40, Fl40, Fv40, Fs40, Fd40, Av40, Al40, Ad40, gv40, gl40, gd40, n140, n240, n340, n440, n540, n640⟩ := hQ40
        have N40 := Fr.app N38 Nq40
        have E41_ad1 := Exa.keep Eq38 Kq40
        have O41 := Old.keep O39 Kq40 (allS g1n (allS gv38 (allS gl38 (allS gd38 all0))))
        refine own_tr st40 ?_
        show own_G p e below s _ _ _ (T40.setTop (mkF m 331 #[.val (Value.int x0), .val (Value.int x1), .val (Value.int x2), .val (Value.int x3), .val (Value.int x4), .val (Value.int x5), .val (Value.int ww), .val (Value.int (((x0.toUInt32 >>> ((7 : Int32) &&& 31).toUInt32).toInt32) &&& (3 : Int32))), .val (Value.int cl), .val (Value.int v0), .val (Value.int v0), .val (Value.int v1), .val (Value.int v2), .val (Value.int cnt), .val (Value.int r0), .val (Value.int r1), .val (Value.int r2), .val (Value.int d0), .val (Value.int (v1 - r1)), .val (Value.int d1), .val (Value.int (v2 - r2)), .val (Value.int d2), .val (Value.int q), .val (Value.ref ad1), .unset, .unset] []))
        refine own_aload X40 hx hby at_331 rfl rfl ?_
        show own_G p e below s _ _ _ (T40.setTop (mkF m 333 #[.val (Value.int x0), .val (Value.int x1), .val (Value.int x2), .val (Value.int x3), .val (Value.int x4), .val (Value.int x5), .val (Value.int ww), .val (Value.int (((x0.toUInt32 >>> ((7 : Int32) &&& 31).toUInt32).toInt32) &&& (3 : Int32))), .val (Value.int cl), .val (Value.int v0), .val (Value.int v0), .val (Value.int v1), .val (Value.int v2), .val (Value.int cnt), .val (Value.int r0), .val (Value.int r1), .val (Value.int r2), .val (Value.int d0), .val (Value.int (v1 - r1)), .val (Value.int d1), .val (Value.int (v2 - r2)), .val (Value.int d2), .val (Value.int q), .val (Value.ref ad1), .unset, .unset] [(Value.ref ad1)]))
        refine own_iload X40 hx hby at_333 rfl ?_
        show own_G p e below s _ _ _ (T40.setTop (mkF m 335 #[.val (Value.int x0), .val (Value.int x1), .val (Value.int x2), .val (Value.int x3), .val (Value.int x4), .val (Value.int x5), .val (Value.int ww), .val (Value.int (((x0.toUInt32 >>> ((7 : Int32) &&& 31).toUInt32).toInt32) &&& (3 : Int32))), .val (Value.int cl), .val (Value.int v0), .val (Value.int v0), .val (Value.int v1), .val (Value.int v2), .val (Value.int cnt), .val (Value.int r0), .val (Value.int r1), .val (Value.int r2), .val (Value.int d0), .val (Value.int (v1 - r1)), .val (Value.int d1), .val (Value.int (v2 - r2)), .val (Value.int d2), .val (Value.int q), .val (Value.ref ad1), .unset, .unset] [(Value.int q), (Value.ref ad1)]))
        obtain ⟨cq42, kq42, q42a, q42b, q42c⟩ := isOf (T := T40) hZ rfl Eq40
        obtain ⟨_, _, ⟨T42, L42, k42, n42⟩, -, X42, ⟨Lc42, hQ42, l42, y42, z42⟩, st42⟩ := X40.virtualBack hx (y := (⟨"com/example/tuck/tuck/ListWindow", "depth", "(I)I"⟩ : MethodName)) (z := (⟨"com/example/tuck/tuck/ListWindow", "depth", "(I)I"⟩ : MethodName)) hown (mvT hZ (own_w50 hw)) (mvT hZ (own_w51 hw)) (notFace_of_selects (args := #[]) (mvT hZ (own_w53 hw))) (mvT hZ (own_w53 hw)) (mvT hZ (own_w52 hw)) (by decide) (backOf (W := 0) (own_rmD l Z a0 hw [] ad1 q (own_lm (own_need ww cnt)) kv40 kl40 kd40 n40_ V40_ D40_ T40.heap n0 O41 Eq40 Fl40 Fv40 Fs40 Fd40 Av40 Al40 Ad40 g1n gv40 gl40 gd40 n140 n240 n340 n440 n540 n640 hpw40) hZ (own_w54 hw) (own_w4 hw) (by decide) (by decide)) q42a q42c (g := (mkF m 335 #[.val (Value.int x0), .val (Value.int x1), .val (Value.int x2), .val (Value.int x3), .val (Value.int x4), .val (Value.int x5), .val (Value.int ww), .val (Value.int (((x0.toUInt32 >>> ((7 : Int32) &&& 31).toUInt32).toInt32) &&& (3 : Int32))), .val (Value.int cl), .val (Value.int v0), .val (Value.int v0), .val (Value.int v1), .val (Value.int v2), .val (Value.int cnt), .val (Value.int r0), .val (Value.int r1), .val (Value.int r2), .val (Value.int d0), .val (Value.int (v1 - r1)), .val (Value.int d1), .val (Value.int (v2 - r2)), .val (Value.int d2), .val (Value.int q), .val (Value.ref ad1), .unset, .unset] [(Value.int q), (Value.ref ad1)])) rfl (by rw [hml]; rfl) (Steps.refl _) (argsL := [(Value.int q)]) (rest := []) (lenOf own_pd0 rfl) rfl (by show 2 * 0 + _ ≤ _; exact Nat.le_of_eq rfl) (hb hby at_335) (fun _ _ => ⟨rfl, rfl, (by decide : (10 : Nat) + 0 ≤ _), (by decide : (964 : Nat) + 0 ≤ _)⟩)
        dsimp only [Pt.U, Pt.locs, Pt.cells, Pt.slots] at X42 l42 y42 z42 st42 hQ42
        subst l42 y42 z42
        obtain ⟨rfl, e42, Nq42⟩ := hQ42
        have N42 := Fr.app N40 Nq42
        refine own_tr st42 ?_
        show own_G p e below s _ _ _ (T42.setTop (mkF m 338 #[.val (Value.int x0), .val (Value.int x1), .val (Value.int x2), .val (Value.int x3), .val (Value.int x4), .val (Value.int x5), .val (Value.int ww), .val (Value.int (((x0.toUInt32 >>> ((7 : Int32) &&& 31).toUInt32).toInt32) &&& (3 : Int32))), .val (Value.int cl), .val (Value.int v0), .val (Value.int v0), .val (Value.int v1), .val (Value.int v2), .val (Value.int cnt), .val (Value.int r0), .val (Value.int r1), .val (Value.int r2), .val (Value.int d0), .val (Value.int (v1 - r1)), .val (Value.int d1), .val (Value.int (v2 - r2)), .val (Value.int d2), .val (Value.int q), .val (Value.ref ad1), .unset, .unset] [(Value.int (own_dep n40_ V40_ D40_ q))]))
        have hlim : min (ww.toInt + 1) cnt.toInt ≤ (own_lm (own_need ww cnt)).toInt := by have e := own_need_eq hww1 hww2 hcc1; have o := (own_lm_ok (x := own_need ww cnt) (by omega) (by omega)).2; omega
        have LW := own_law3 hww1 hww2 ha0.1 (by omega) (by omega) (by omega) hb11 hb12 hlim hA hKp38 hKp40 hd1 hd2 q
        refine own_istore X42 hx hby at_338 (l' := #[.val (Value.int x0), .val (Value.int x1), .val (Value.int x2), .val (Value.int x3), .val (Value.int x4), .val (Value.int x5), .val (Value.int ww), .val (Value.int (((x0.toUInt32 >>> ((7 : Int32) &&& 31).toUInt32).toInt32) &&& (3 : Int32))), .val (Value.int cl), .val (Value.int v0), .val (Value.int v0), .val (Value.int v1), .val (Value.int v2), .val (Value.int cnt), .val (Value.int r0), .val (Value.int r1), .val (Value.int r2), .val (Value.int d0), .val (Value.int (v1 - r1)), .val (Value.int d1), .val (Value.int (v2 - r2)), .val (Value.int d2), .val (Value.int q), .val (Value.ref ad1), .val (Value.int (own_dep n40_ V40_ D40_ q)), .unset]) rfl ?_
        show own_G p e below s _ _ _ (T42.setTop (mkF m 340 #[.val (Value.int x0), .val (Value.int x1), .val (Value.int x2), .val (Value.int x3), .val (Value.int x4), .val (Value.int x5), .val (Value.int ww), .val (Value.int (((x0.toUInt32 >>> ((7 : Int32) &&& 31).toUInt32).toInt32) &&& (3 : Int32))), .val (Value.int cl), .val (Value.int v0), .val (Value.int v0), .val (Value.int v1), .val (Value.int v2), .val (Value.int cnt), .val (Value.int r0), .val (Value.int r1), .val (Value.int r2), .val (Value.int d0), .val (Value.int (v1 - r1)), .val (Value.int d1), .val (Value.int (v2 - r2)), .val (Value.int d2), .val (Value.int q), .val (Value.ref ad1), .val (Value.int (own_dep n40_ V40_ D40_ q)), .unset] []))
        refine own_iload X42 hx hby at_340 rfl ?_
        show own_G p e below s _ _ _ (T42.setTop (mkF m 342 #[.val (Value.int x0), .val (Value.int x1), .val (Value.int x2), .val (Value.int x3), .val (Value.int x4), .val (Value.int x5), .val (Value.int ww), .val (Value.int (((x0.toUInt32 >>> ((7 : Int32) &&& 31).toUInt32).toInt32) &&& (3 : Int32))), .val (Value.int cl), .val (Value.int v0), .val (Value.int v0), .val (Value.int v1), .val (Value.int v2), .val (Value.int cnt), .val (Value.int r0), .val (Value.int r1), .val (Value.int r2), .val (Value.int d0), .val (Value.int (v1 - r1)), .val (Value.int d1), .val (Value.int (v2 - r2)), .val (Value.int d2), .val (Value.int q), .val (Value.ref ad1), .val (Value.int (own_dep n40_ V40_ D40_ q)), .unset] [(Value.int q)]))
        refine own_iload X42 hx hby at_342 rfl ?_
        show own_G p e below s _ _ _ (T42.setTop (mkF m 344 #[.val (Value.int x0), .val (Value.int x1), .val (Value.int x2), .val (Value.int x3), .val (Value.int x4), .val (Value.int x5), .val (Value.int ww), .val (Value.int (((x0.toUInt32 >>> ((7 : Int32) &&& 31).toUInt32).toInt32) &&& (3 : Int32))), .val (Value.int cl), .val (Value.int v0), .val (Value.int v0), .val (Value.int v1), .val (Value.int v2), .val (Value.int cnt), .val (Value.int r0), .val (Value.int r1), .val (Value.int r2), .val (Value.int d0), .val (Value.int (v1 - r1)), .val (Value.int d1), .val (Value.int (v2 - r2)), .val (Value.int d2), .val (Value.int q), .val (Value.ref ad1), .val (Value.int (own_dep n40_ V40_ D40_ q)), .unset] [(Value.int v2), (Value.int q)]))
        refine own_iload X42 hx hby at_344 rfl ?_
        show own_G p e below s _ _ _ (T42.setTop (mkF m 346 #[.val (Value.int x0), .val (Value.int x1), .val (Value.int x2), .val (Value.int x3), .val (Value.int x4), .val (Value.int x5), .val (Value.int ww), .val (Value.int (((x0.toUInt32 >>> ((7 : Int32) &&& 31).toUInt32).toInt32) &&& (3 : Int32))), .val (Value.int cl), .val (Value.int v0), .val (Value.int v0), .val (Value.int v1), .val (Value.int v2), .val (Value.int cnt), .val (Value.int r0), .val (Value.int r1), .val (Value.int r2), .val (Value.int d0), .val (Value.int (v1 - r1)), .val (Value.int d1), .val (Value.int (v2 - r2)), .val (Value.int d2), .val (Value.int q), .val (Value.ref ad1), .val (Value.int (own_dep n40_ V40_ D40_ q)), .unset] [(Value.int ww), (Value.int v2), (Value.int q)]))
        refine own_isub X42 hx hby at_346 ?_
        show own_G p e below s _ _ _ (T42.setTop (mkF m 347 #[.val (Value.int x0), .val (Value.int x1), .val (Value.int x2), .val (Value.int x3), .val (Value.int x4), .val (Value.int x5), .val (Value.int ww), .val (Value.int (((x0.toUInt32 >>> ((7 : Int32) &&& 31).toUInt32).toInt32) &&& (3 : Int32))), .val (Value.int cl), .val (Value.int v0), .val (Value.int v0), .val (Value.int v1), .val (Value.int v2), .val (Value.int cnt), .val (Value.int r0), .val (Value.int r1), .val (Value.int r2), .val (Value.int d0), .val (Value.int (v1 - r1)), .val (Value.int d1), .val (Value.int (v2 - r2)), .val (Value.int d2), .val (Value.int q), .val (Value.ref ad1), .val (Value.int (own_dep n40_ V40_ D40_ q)), .unset] [(Value.int (v2 - ww)), (Value.int q)]))
        refine own_icmp_lt X42 hx hby at_347 (pc' := 354) (by decide) (by decide) (fun hb43 => ?_) (fun hb43 => ?_)
        · show own_G p e below s _ _ _ (T42.setTop (mkF m 354 #[.val (Value.int x0), .val (Value.int x1), .val (Value.int x2), .val (Value.int x3), .val (Value.int x4), .val (Value.int x5), .val (Value.int ww), .val (Value.int (((x0.toUInt32 >>> ((7 : Int32) &&& 31).toUInt32).toInt32) &&& (3 : Int32))), .val (Value.int cl), .val (Value.int v0), .val (Value.int v0), .val (Value.int v1), .val (Value.int v2), .val (Value.int cnt), .val (Value.int r0), .val (Value.int r1), .val (Value.int r2), .val (Value.int d0), .val (Value.int (v1 - r1)), .val (Value.int d1), .val (Value.int (v2 - r2)), .val (Value.int d2), .val (Value.int q), .val (Value.ref ad1), .val (Value.int (own_dep n40_ V40_ D40_ q)), .unset] []))
          refine own_iconst X42 hx hby at_354 ?_
          show own_G p e below s _ _ _ (T42.setTop (mkF m 355 #[.val (Value.int x0), .val (Value.int x1), .val (Value.int x2), .val (Value.int x3), .val (Value.int x4), .val (Value.int x5), .val (Value.int ww), .val (Value.int (((x0.toUInt32 >>> ((7 : Int32) &&& 31).toUInt32).toInt32) &&& (3 : Int32))), .val (Value.int cl), .val (Value.int v0), .val (Value.int v0), .val (Value.int v1), .val (Value.int v2), .val (Value.int cnt), .val (Value.int r0), .val (Value.int r1), .val (Value.int r2), .val (Value.int d0), .val (Value.int (v1 - r1)), .val (Value.int d1), .val (Value.int (v2 - r2)), .val (Value.int d2), .val (Value.int q), .val (Value.ref ad1), .val (Value.int (own_dep n40_ V40_ D40_ q)), .unset] [(Value.int (0 : Int32))]))
          refine own_istore X42 hx hby at_355 (l' := #[.val (Value.int x0), .val (Value.int x1), .val (Value.int x2), .val (Value.int x3), .val (Value.int x4), .val (Value.int x5), .val (Value.int ww), .val (Value.int (((x0.toUInt32 >>> ((7 : Int32) &&& 31).toUInt32).toInt32) &&& (3 : Int32))), .val (Value.int cl), .val (Value.int v0), .val (Value.int v0), .val (Value.int v1), .val (Value.int v2), .val (Value.int cnt), .val (Value.int r0), .val (Value.int r1), .val (Value.int r2), .val (Value.int d0), .val (Value.int (v1 - r1)), .val (Value.int d1), .val (Value.int (v2 - r2)), .val (Value.int d2), .val (Value.int q), .val (Value.ref ad1), .val (Value.int (own_dep n40_ V40_ D40_ q)), .val (Value.int (0 : Int32))]) rfl ?_
          show own_G p e below s _ _ _ (T42.setTop (mkF m 357 #[.val (Value.int x0), .val (Value.int x1), .val (Value.int x2), .val (Value.int x3), .val (Value.int x4), .val (Value.int x5), .val (Value.int ww), .val (Value.int (((x0.toUInt32 >>> ((7 : Int32) &&& 31).toUInt32).toInt32) &&& (3 : Int32))), .val (Value.int cl), .val (Value.int v0), .val (Value.int v0), .val (Value.int v1), .val (Value.int v2), .val (Value.int cnt), .val (Value.int r0), .val (Value.int r1), .val (Value.int r2), .val (Value.int d0), .val (Value.int (v1 - r1)), .val (Value.int d1), .val (Value.int (v2 - r2)), .val (Value.int d2), .val (Value.int q), .val (Value.ref ad1), .val (Value.int (own_dep n40_ V40_ D40_ q)), .val (Value.int (0 : Int32))] []))
          refine own_iload X42 hx hby at_357 rfl ?_
          show own_G p e below s _ _ _ (T42.setTop (mkF m 359 #[.val (Value.int x0), .val (Value.int x1), .val (Value.int x2), .val (Value.int x3), .val (Value.int x4), .val (Value.int x5), .val (Value.int ww), .val (Value.int (((x0.toUInt32 >>> ((7 : Int32) &&& 31).toUInt32).toInt32) &&& (3 : Int32))), .val (Value.int cl), .val (Value.int v0), .val (Value.int v0), .val (Value.int v1), .val (Value.int v2), .val (Value.int cnt), .val (Value.int r0), .val (Value.int r1), .val (Value.int r2), .val (Value.int d0), .val (Value.int (v1 - r1)), .val (Value.int d1), .val (Value.int (v2 - r2)), .val (Value.int d2), .val (Value.int q), .val (Value.ref ad1), .val (Value.int (own_dep n40_ V40_ D40_ q)), .val (Value.int (0 : Int32))] [(Value.int q)]))
          refine own_iload X42 hx hby at_359 rfl ?_
          show own_G p e below s _ _ _ (T42.setTop (mkF m 361 #[.val (Value.int x0), .val (Value.int x1), .val (Value.int x2), .val (Value.int x3), .val (Value.int x4), .val (Value.int x5), .val (Value.int ww), .val (Value.int (((x0.toUInt32 >>> ((7 : Int32) &&& 31).toUInt32).toInt32) &&& (3 : Int32))), .val (Value.int cl), .val (Value.int v0), .val (Value.int v0), .val (Value.int v1), .val (Value.int v2), .val (Value.int cnt), .val (Value.int r0), .val (Value.int r1), .val (Value.int r2), .val (Value.int d0), .val (Value.int (v1 - r1)), .val (Value.int d1), .val (Value.int (v2 - r2)), .val (Value.int d2), .val (Value.int q), .val (Value.ref ad1), .val (Value.int (own_dep n40_ V40_ D40_ q)), .val (Value.int (0 : Int32))] [(Value.int v2), (Value.int q)]))
          refine own_icmp_ne X42 hx hby at_361 (pc' := 377) (by decide) (by decide) (fun hb44 => ?_) (fun hb44 => ?_)
          · show own_G p e below s _ _ _ (T42.setTop (mkF m 377 #[.val (Value.int x0), .val (Value.int x1), .val (Value.int x2), .val (Value.int x3), .val (Value.int x4), .val (Value.int x5), .val (Value.int ww), .val (Value.int (((x0.toUInt32 >>> ((7 : Int32) &&& 31).toUInt32).toInt32) &&& (3 : Int32))), .val (Value.int cl), .val (Value.int v0), .val (Value.int v0), .val (Value.int v1), .val (Value.int v2), .val (Value.int cnt), .val (Value.int r0), .val (Value.int r1), .val (Value.int r2), .val (Value.int d0), .val (Value.int (v1 - r1)), .val (Value.int d1), .val (Value.int (v2 - r2)), .val (Value.int d2), .val (Value.int q), .val (Value.ref ad1), .val (Value.int (own_dep n40_ V40_ D40_ q)), .val (Value.int (0 : Int32))] []))
            refine own_iload X42 hx hby at_377 rfl ?_
            show own_G p e below s _ _ _ (T42.setTop (mkF m 379 #[.val (Value.int x0), .val (Value.int x1), .val (Value.int x2), .val (Value.int x3), .val (Value.int x4), .val (Value.int x5), .val (Value.int ww), .val (Value.int (((x0.toUInt32 >>> ((7 : Int32) &&& 31).toUInt32).toInt32) &&& (3 : Int32))), .val (Value.int cl), .val (Value.int v0), .val (Value.int v0), .val (Value.int v1), .val (Value.int v2), .val (Value.int cnt), .val (Value.int r0), .val (Value.int r1), .val (Value.int r2), .val (Value.int d0), .val (Value.int (v1 - r1)), .val (Value.int d1), .val (Value.int (v2 - r2)), .val (Value.int d2), .val (Value.int q), .val (Value.ref ad1), .val (Value.int (own_dep n40_ V40_ D40_ q)), .val (Value.int (0 : Int32))] [(Value.int q)]))
            refine own_iload X42 hx hby at_379 rfl ?_
            show own_G p e below s _ _ _ (T42.setTop (mkF m 381 #[.val (Value.int x0), .val (Value.int x1), .val (Value.int x2), .val (Value.int x3), .val (Value.int x4), .val (Value.int x5), .val (Value.int ww), .val (Value.int (((x0.toUInt32 >>> ((7 : Int32) &&& 31).toUInt32).toInt32) &&& (3 : Int32))), .val (Value.int cl), .val (Value.int v0), .val (Value.int v0), .val (Value.int v1), .val (Value.int v2), .val (Value.int cnt), .val (Value.int r0), .val (Value.int r1), .val (Value.int r2), .val (Value.int d0), .val (Value.int (v1 - r1)), .val (Value.int d1), .val (Value.int (v2 - r2)), .val (Value.int d2), .val (Value.int q), .val (Value.ref ad1), .val (Value.int (own_dep n40_ V40_ D40_ q)), .val (Value.int (0 : Int32))] [(Value.int v1), (Value.int q)]))
            refine own_icmp_ne X42 hx hby at_381 (pc' := 422) (by decide) (by decide) (fun hb45 => ?_) (fun hb45 => ?_)
            · show own_G p e below s _ _ _ (T42.setTop (mkF m 422 #[.val (Value.int x0), .val (Value.int x1), .val (Value.int x2), .val (Value.int x3), .val (Value.int x4), .val (Value.int x5), .val (Value.int ww), .val (Value.int (((x0.toUInt32 >>> ((7 : Int32) &&& 31).toUInt32).toInt32) &&& (3 : Int32))), .val (Value.int cl), .val (Value.int v0), .val (Value.int v0), .val (Value.int v1), .val (Value.int v2), .val (Value.int cnt), .val (Value.int r0), .val (Value.int r1), .val (Value.int r2), .val (Value.int d0), .val (Value.int (v1 - r1)), .val (Value.int d1), .val (Value.int (v2 - r2)), .val (Value.int d2), .val (Value.int q), .val (Value.ref ad1), .val (Value.int (own_dep n40_ V40_ D40_ q)), .val (Value.int (0 : Int32))] []))
              refine own_iload X42 hx hby at_422 rfl ?_
              show own_G p e below s _ _ _ (T42.setTop (mkF m 424 #[.val (Value.int x0), .val (Value.int x1), .val (Value.int x2), .val (Value.int x3), .val (Value.int x4), .val (Value.int x5), .val (Value.int ww), .val (Value.int (((x0.toUInt32 >>> ((7 : Int32) &&& 31).toUInt32).toInt32) &&& (3 : Int32))), .val (Value.int cl), .val (Value.int v0), .val (Value.int v0), .val (Value.int v1), .val (Value.int v2), .val (Value.int cnt), .val (Value.int r0), .val (Value.int r1), .val (Value.int r2), .val (Value.int d0), .val (Value.int (v1 - r1)), .val (Value.int d1), .val (Value.int (v2 - r2)), .val (Value.int d2), .val (Value.int q), .val (Value.ref ad1), .val (Value.int (own_dep n40_ V40_ D40_ q)), .val (Value.int (0 : Int32))] [(Value.int q)]))
              refine own_iload X42 hx hby at_424 rfl ?_
              show own_G p e below s _ _ _ (T42.setTop (mkF m 426 #[.val (Value.int x0), .val (Value.int x1), .val (Value.int x2), .val (Value.int x3), .val (Value.int x4), .val (Value.int x5), .val (Value.int ww), .val (Value.int (((x0.toUInt32 >>> ((7 : Int32) &&& 31).toUInt32).toInt32) &&& (3 : Int32))), .val (Value.int cl), .val (Value.int v0), .val (Value.int v0), .val (Value.int v1), .val (Value.int v2), .val (Value.int cnt), .val (Value.int r0), .val (Value.int r1), .val (Value.int r2), .val (Value.int d0), .val (Value.int (v1 - r1)), .val (Value.int d1), .val (Value.int (v2 - r2)), .val (Value.int d2), .val (Value.int q), .val (Value.ref ad1), .val (Value.int (own_dep n40_ V40_ D40_ q)), .val (Value.int (0 : Int32))] [(Value.int v0), (Value.int q)]))
              refine own_icmp_ne X42 hx hby at_426 (pc' := 472) (by decide) (by decide) (fun hb46 => ?_) (fun hb46 => ?_)
              · show own_G p e below s _ _ _ (T42.setTop (mkF m 472 #[.val (Value.int x0), .val (Value.int x1), .val (Value.int x2), .val (Value.int x3), .val (Value.int x4), .val (Value.int x5), .val (Value.int ww), .val (Value.int (((x0.toUInt32 >>> ((7 : Int32) &&& 31).toUInt32).toInt32) &&& (3 : Int32))), .val (Value.int cl), .val (Value.int v0), .val (Value.int v0), .val (Value.int v1), .val (Value.int v2), .val (Value.int cnt), .val (Value.int r0), .val (Value.int r1), .val (Value.int r2), .val (Value.int d0), .val (Value.int (v1 - r1)), .val (Value.int d1), .val (Value.int (v2 - r2)), .val (Value.int d2), .val (Value.int q), .val (Value.ref ad1), .val (Value.int (own_dep n40_ V40_ D40_ q)), .val (Value.int (0 : Int32))] []))
                refine own_iload X42 hx hby at_472 rfl ?_
                show own_G p e below s _ _ _ (T42.setTop (mkF m 474 #[.val (Value.int x0), .val (Value.int x1), .val (Value.int x2), .val (Value.int x3), .val (Value.int x4), .val (Value.int x5), .val (Value.int ww), .val (Value.int (((x0.toUInt32 >>> ((7 : Int32) &&& 31).toUInt32).toInt32) &&& (3 : Int32))), .val (Value.int cl), .val (Value.int v0), .val (Value.int v0), .val (Value.int v1), .val (Value.int v2), .val (Value.int cnt), .val (Value.int r0), .val (Value.int r1), .val (Value.int r2), .val (Value.int d0), .val (Value.int (v1 - r1)), .val (Value.int d1), .val (Value.int (v2 - r2)), .val (Value.int d2), .val (Value.int q), .val (Value.ref ad1), .val (Value.int (own_dep n40_ V40_ D40_ q)), .val (Value.int (0 : Int32))] [(Value.int (own_dep n40_ V40_ D40_ q))]))
                refine own_if_ne X42 hx hby at_474 (pc' := 481) (by decide) (by decide) (fun hb47 => by exfalso; exact hb47 (LW.2.2.2 hb44 hb45 (fun z => hb46 z.1))) (fun hb47 => ?_)
                show own_G p e below s _ _ _ (T42.setTop (mkF m 477 #[.val (Value.int x0), .val (Value.int x1), .val (Value.int x2), .val (Value.int x3), .val (Value.int x4), .val (Value.int x5), .val (Value.int ww), .val (Value.int (((x0.toUInt32 >>> ((7 : Int32) &&& 31).toUInt32).toInt32) &&& (3 : Int32))), .val (Value.int cl), .val (Value.int v0), .val (Value.int v0), .val (Value.int v1), .val (Value.int v2), .val (Value.int cnt), .val (Value.int r0), .val (Value.int r1), .val (Value.int r2), .val (Value.int d0), .val (Value.int (v1 - r1)), .val (Value.int d1), .val (Value.int (v2 - r2)), .val (Value.int d2), .val (Value.int q), .val (Value.ref ad1), .val (Value.int (own_dep n40_ V40_ D40_ q)), .val (Value.int (0 : Int32))] []))
                refine own_iconst X42 hx hby at_477 ?_
                show own_G p e below s _ _ _ (T42.setTop (mkF m 478 #[.val (Value.int x0), .val (Value.int x1), .val (Value.int x2), .val (Value.int x3), .val (Value.int x4), .val (Value.int x5), .val (Value.int ww), .val (Value.int (((x0.toUInt32 >>> ((7 : Int32) &&& 31).toUInt32).toInt32) &&& (3 : Int32))), .val (Value.int cl), .val (Value.int v0), .val (Value.int v0), .val (Value.int v1), .val (Value.int v2), .val (Value.int cnt), .val (Value.int r0), .val (Value.int r1), .val (Value.int r2), .val (Value.int d0), .val (Value.int (v1 - r1)), .val (Value.int d1), .val (Value.int (v2 - r2)), .val (Value.int d2), .val (Value.int q), .val (Value.ref ad1), .val (Value.int (own_dep n40_ V40_ D40_ q)), .val (Value.int (0 : Int32))] [(Value.int (1 : Int32))]))
                refine own_goto X42 hx hby at_478 (pc' := 482) (by decide) (by decide) ?_
                show own_G p e below s _ _ _ (T42.setTop (mkF m 482 #[.val (Value.int x0), .val (Value.int x1), .val (Value.int x2), .val (Value.int x3), .val (Value.int x4), .val (Value.int x5), .val (Value.int ww), .val (Value.int (((x0.toUInt32 >>> ((7 : Int32) &&& 31).toUInt32).toInt32) &&& (3 : Int32))), .val (Value.int cl), .val (Value.int v0), .val (Value.int v0), .val (Value.int v1), .val (Value.int v2), .val (Value.int cnt), .val (Value.int r0), .val (Value.int r1), .val (Value.int r2), .val (Value.int d0), .val (Value.int (v1 - r1)), .val (Value.int d1), .val (Value.int (v2 - r2)), .val (Value.int d2), .val (Value.int q), .val (Value.ref ad1), .val (Value.int (own_dep n40_ V40_ D40_ q)), .val (Value.int (0 : Int32))] [(Value.int (1 : Int32))]))
                refine own_retN X42 hx hby hlk (t := .boolean) Bd.returns (by simp) at_482 (by decide) (by decide) ?_
                exact ⟨rfl, N42⟩
              · show own_G p e below s _ _ _ (T42.setTop (mkF m 429 #[.val (Value.int x0), .val (Value.int x1), .val (Value.int x2), .val (Value.int x3), .val (Value.int x4), .val (Value.int x5), .val (Value.int ww), .val (Value.int (((x0.toUInt32 >>> ((7 : Int32) &&& 31).toUInt32).toInt32) &&& (3 : Int32))), .val (Value.int cl), .val (Value.int v0), .val (Value.int v0), .val (Value.int v1), .val (Value.int v2), .val (Value.int cnt), .val (Value.int r0), .val (Value.int r1), .val (Value.int r2), .val (Value.int d0), .val (Value.int (v1 - r1)), .val (Value.int d1), .val (Value.int (v2 - r2)), .val (Value.int d2), .val (Value.int q), .val (Value.ref ad1), .val (Value.int (own_dep n40_ V40_ D40_ q)), .val (Value.int (0 : Int32))] []))
                refine own_iload X42 hx hby at_429 rfl ?_
                show own_G p e below s _ _ _ (T42.setTop (mkF m 431 #[.val (Value.int x0), .val (Value.int x1), .val (Value.int x2), .val (Value.int x3), .val (Value.int x4), .val (Value.int x5), .val (Value.int ww), .val (Value.int (((x0.toUInt32 >>> ((7 : Int32) &&& 31).toUInt32).toInt32) &&& (3 : Int32))), .val (Value.int cl), .val (Value.int v0), .val (Value.int v0), .val (Value.int v1), .val (Value.int v2), .val (Value.int cnt), .val (Value.int r0), .val (Value.int r1), .val (Value.int r2), .val (Value.int d0), .val (Value.int (v1 - r1)), .val (Value.int d1), .val (Value.int (v2 - r2)), .val (Value.int d2), .val (Value.int q), .val (Value.ref ad1), .val (Value.int (own_dep n40_ V40_ D40_ q)), .val (Value.int (0 : Int32))] [(Value.int cl)]))
                refine own_if_ne X42 hx hby at_431 (pc' := 472) (by decide) (by decide) (fun hb48 => ?_) (fun hb48 => by exfalso; first | exact hb48 hb7 | exact hb7 hb48)
                show own_G p e below s _ _ _ (T42.setTop (mkF m 472 #[.val (Value.int x0), .val (Value.int x1), .val (Value.int x2), .val (Value.int x3), .val (Value.int x4), .val (Value.int x5), .val (Value.int ww), .val (Value.int (((x0.toUInt32 >>> ((7 : Int32) &&& 31).toUInt32).toInt32) &&& (3 : Int32))), .val (Value.int cl), .val (Value.int v0), .val (Value.int v0), .val (Value.int v1), .val (Value.int v2), .val (Value.int cnt), .val (Value.int r0), .val (Value.int r1), .val (Value.int r2), .val (Value.int d0), .val (Value.int (v1 - r1)), .val (Value.int d1), .val (Value.int (v2 - r2)), .val (Value.int d2), .val (Value.int q), .val (Value.ref ad1), .val (Value.int (own_dep n40_ V40_ D40_ q)), .val (Value.int (0 : Int32))] []))
                refine own_iload X42 hx hby at_472 rfl ?_
                show own_G p e below s _ _ _ (T42.setTop (mkF m 474 #[.val (Value.int x0), .val (Value.int x1), .val (Value.int x2), .val (Value.int x3), .val (Value.int x4), .val (Value.int x5), .val (Value.int ww), .val (Value.int (((x0.toUInt32 >>> ((7 : Int32) &&& 31).toUInt32).toInt32) &&& (3 : Int32))), .val (Value.int cl), .val (Value.int v0), .val (Value.int v0), .val (Value.int v1), .val (Value.int v2), .val (Value.int cnt), .val (Value.int r0), .val (Value.int r1), .val (Value.int r2), .val (Value.int d0), .val (Value.int (v1 - r1)), .val (Value.int d1), .val (Value.int (v2 - r2)), .val (Value.int d2), .val (Value.int q), .val (Value.ref ad1), .val (Value.int (own_dep n40_ V40_ D40_ q)), .val (Value.int (0 : Int32))] [(Value.int (own_dep n40_ V40_ D40_ q))]))
                refine own_if_ne X42 hx hby at_474 (pc' := 481) (by decide) (by decide) (fun hb49 => by exfalso; exact hb49 (LW.2.2.2 hb44 hb45 (fun z => hb48 z.2))) (fun hb49 => ?_)
                show own_G p e below s _ _ _ (T42.setTop (mkF m 477 #[.val (Value.int x0), .val (Value.int x1), .val (Value.int x2), .val (Value.int x3), .val (Value.int x4), .val (Value.int x5), .val (Value.int ww), .val (Value.int (((x0.toUInt32 >>> ((7 : Int32) &&& 31).toUInt32).toInt32) &&& (3 : Int32))), .val (Value.int cl), .val (Value.int v0), .val (Value.int v0), .val (Value.int v1), .val (Value.int v2), .val (Value.int cnt), .val (Value.int r0), .val (Value.int r1), .val (Value.int r2), .val (Value.int d0), .val (Value.int (v1 - r1)), .val (Value.int d1), .val (Value.int (v2 - r2)), .val (Value.int d2), .val (Value.int q), .val (Value.ref ad1), .val (Value.int (own_dep n40_ V40_ D40_ q)), .val (Value.int (0 : Int32))] []))
                refine own_iconst X42 hx hby at_477 ?_
                show own_G p e below s _ _ _ (T42.setTop (mkF m 478 #[.val (Value.int x0), .val (Value.int x1), .val (Value.int x2), .val (Value.int x3), .val (Value.int x4), .val (Value.int x5), .val (Value.int ww), .val (Value.int (((x0.toUInt32 >>> ((7 : Int32) &&& 31).toUInt32).toInt32) &&& (3 : Int32))), .val (Value.int cl), .val (Value.int v0), .val (Value.int v0), .val (Value.int v1), .val (Value.int v2), .val (Value.int cnt), .val (Value.int r0), .val (Value.int r1), .val (Value.int r2), .val (Value.int d0), .val (Value.int (v1 - r1)), .val (Value.int d1), .val (Value.int (v2 - r2)), .val (Value.int d2), .val (Value.int q), .val (Value.ref ad1), .val (Value.int (own_dep n40_ V40_ D40_ q)), .val (Value.int (0 : Int32))] [(Value.int (1 : Int32))]))
                refine own_goto X42 hx hby at_478 (pc' := 482) (by decide) (by decide) ?_
                show own_G p e below s _ _ _ (T42.setTop (mkF m 482 #[.val (Value.int x0), .val (Value.int x1), .val (Value.int x2), .val (Value.int x3), .val (Value.int x4), .val (Value.int x5), .val (Value.int ww), .val (Value.int (((x0.toUInt32 >>> ((7 : Int32) &&& 31).toUInt32).toInt32) &&& (3 : Int32))), .val (Value.int cl), .val (Value.int v0), .val (Value.int v0), .val (Value.int v1), .val (Value.int v2), .val (Value.int cnt), .val (Value.int r0), .val (Value.int r1), .val (Value.int r2), .val (Value.int d0), .val (Value.int (v1 - r1)), .val (Value.int d1), .val (Value.int (v2 - r2)), .val (Value.int d2), .val (Value.int q), .val (Value.ref ad1), .val (Value.int (own_dep n40_ V40_ D40_ q)), .val (Value.int (0 : Int32))] [(Value.int (1 : Int32))]))
                refine own_retN X42 hx hby hlk (t := .boolean) Bd.returns (by simp) at_482 (by decide) (by decide) ?_
                exact ⟨rfl, N42⟩
            · show own_G p e below s _ _ _ (T42.setTop (mkF m 384 #[.val (Value.int x0), .val (Value.int x1), .val (Value.int x2), .val (Value.int x3), .val (Value.int x4), .val (Value.int x5), .val (Value.int ww), .val (Value.int (((x0.toUInt32 >>> ((7 : Int32) &&& 31).toUInt32).toInt32) &&& (3 : Int32))), .val (Value.int cl), .val (Value.int v0), .val (Value.int v0), .val (Value.int v1), .val (Value.int v2), .val (Value.int cnt), .val (Value.int r0), .val (Value.int r1), .val (Value.int r2), .val (Value.int d0), .val (Value.int (v1 - r1)), .val (Value.int d1), .val (Value.int (v2 - r2)), .val (Value.int d2), .val (Value.int q), .val (Value.ref ad1), .val (Value.int (own_dep n40_ V40_ D40_ q)), .val (Value.int (0 : Int32))] []))
              refine own_iload X42 hx hby at_384 rfl ?_
              show own_G p e below s _ _ _ (T42.setTop (mkF m 386 #[.val (Value.int x0), .val (Value.int x1), .val (Value.int x2), .val (Value.int x3), .val (Value.int x4), .val (Value.int x5), .val (Value.int ww), .val (Value.int (((x0.toUInt32 >>> ((7 : Int32) &&& 31).toUInt32).toInt32) &&& (3 : Int32))), .val (Value.int cl), .val (Value.int v0), .val (Value.int v0), .val (Value.int v1), .val (Value.int v2), .val (Value.int cnt), .val (Value.int r0), .val (Value.int r1), .val (Value.int r2), .val (Value.int d0), .val (Value.int (v1 - r1)), .val (Value.int d1), .val (Value.int (v2 - r2)), .val (Value.int d2), .val (Value.int q), .val (Value.ref ad1), .val (Value.int (own_dep n40_ V40_ D40_ q)), .val (Value.int (0 : Int32))] [(Value.int (0 : Int32))]))
              refine own_if_eq X42 hx hby at_386 (pc' := 404) (by decide) (by decide) (fun hb50 => ?_) (fun hb50 => by exfalso; revert hb50; decide)
              show own_G p e below s _ _ _ (T42.setTop (mkF m 404 #[.val (Value.int x0), .val (Value.int x1), .val (Value.int x2), .val (Value.int x3), .val (Value.int x4), .val (Value.int x5), .val (Value.int ww), .val (Value.int (((x0.toUInt32 >>> ((7 : Int32) &&& 31).toUInt32).toInt32) &&& (3 : Int32))), .val (Value.int cl), .val (Value.int v0), .val (Value.int v0), .val (Value.int v1), .val (Value.int v2), .val (Value.int cnt), .val (Value.int r0), .val (Value.int r1), .val (Value.int r2), .val (Value.int d0), .val (Value.int (v1 - r1)), .val (Value.int d1), .val (Value.int (v2 - r2)), .val (Value.int d2), .val (Value.int q), .val (Value.ref ad1), .val (Value.int (own_dep n40_ V40_ D40_ q)), .val (Value.int (0 : Int32))] []))
              refine own_iload X42 hx hby at_404 rfl ?_
              show own_G p e below s _ _ _ (T42.setTop (mkF m 406 #[.val (Value.int x0), .val (Value.int x1), .val (Value.int x2), .val (Value.int x3), .val (Value.int x4), .val (Value.int x5), .val (Value.int ww), .val (Value.int (((x0.toUInt32 >>> ((7 : Int32) &&& 31).toUInt32).toInt32) &&& (3 : Int32))), .val (Value.int cl), .val (Value.int v0), .val (Value.int v0), .val (Value.int v1), .val (Value.int v2), .val (Value.int cnt), .val (Value.int r0), .val (Value.int r1), .val (Value.int r2), .val (Value.int d0), .val (Value.int (v1 - r1)), .val (Value.int d1), .val (Value.int (v2 - r2)), .val (Value.int d2), .val (Value.int q), .val (Value.ref ad1), .val (Value.int (own_dep n40_ V40_ D40_ q)), .val (Value.int (0 : Int32))] [(Value.int (own_dep n40_ V40_ D40_ q))]))
              refine own_if_eq X42 hx hby at_406 (pc' := 416) (by decide) (by decide) (fun hb51 => ?_) (fun hb51 => ?_)
              · show own_G p e below s _ _ _ (T42.setTop (mkF m 416 #[.val (Value.int x0), .val (Value.int x1), .val (Value.int x2), .val (Value.int x3), .val (Value.int x4), .val (Value.int x5), .val (Value.int ww), .val (Value.int (((x0.toUInt32 >>> ((7 : Int32) &&& 31).toUInt32).toInt32) &&& (3 : Int32))), .val (Value.int cl), .val (Value.int v0), .val (Value.int v0), .val (Value.int v1), .val (Value.int v2), .val (Value.int cnt), .val (Value.int r0), .val (Value.int r1), .val (Value.int r2), .val (Value.int d0), .val (Value.int (v1 - r1)), .val (Value.int d1), .val (Value.int (v2 - r2)), .val (Value.int d2), .val (Value.int q), .val (Value.ref ad1), .val (Value.int (own_dep n40_ V40_ D40_ q)), .val (Value.int (0 : Int32))] []))
                refine own_iconst X42 hx hby at_416 ?_
                show own_G p e below s _ _ _ (T42.setTop (mkF m 417 #[.val (Value.int x0), .val (Value.int x1), .val (Value.int x2), .val (Value.int x3), .val (Value.int x4), .val (Value.int x5), .val (Value.int ww), .val (Value.int (((x0.toUInt32 >>> ((7 : Int32) &&& 31).toUInt32).toInt32) &&& (3 : Int32))), .val (Value.int cl), .val (Value.int v0), .val (Value.int v0), .val (Value.int v1), .val (Value.int v2), .val (Value.int cnt), .val (Value.int r0), .val (Value.int r1), .val (Value.int r2), .val (Value.int d0), .val (Value.int (v1 - r1)), .val (Value.int d1), .val (Value.int (v2 - r2)), .val (Value.int d2), .val (Value.int q), .val (Value.ref ad1), .val (Value.int (own_dep n40_ V40_ D40_ q)), .val (Value.int (0 : Int32))] [(Value.int (1 : Int32))]))
                refine own_goto X42 hx hby at_417 (pc' := 421) (by decide) (by decide) ?_
                show own_G p e below s _ _ _ (T42.setTop (mkF m 421 #[.val (Value.int x0), .val (Value.int x1), .val (Value.int x2), .val (Value.int x3), .val (Value.int x4), .val (Value.int x5), .val (Value.int ww), .val (Value.int (((x0.toUInt32 >>> ((7 : Int32) &&& 31).toUInt32).toInt32) &&& (3 : Int32))), .val (Value.int cl), .val (Value.int v0), .val (Value.int v0), .val (Value.int v1), .val (Value.int v2), .val (Value.int cnt), .val (Value.int r0), .val (Value.int r1), .val (Value.int r2), .val (Value.int d0), .val (Value.int (v1 - r1)), .val (Value.int d1), .val (Value.int (v2 - r2)), .val (Value.int d2), .val (Value.int q), .val (Value.ref ad1), .val (Value.int (own_dep n40_ V40_ D40_ q)), .val (Value.int (0 : Int32))] [(Value.int (1 : Int32))]))
                refine own_retN X42 hx hby hlk (t := .boolean) Bd.returns (by simp) at_421 (by decide) (by decide) ?_
                exact ⟨rfl, N42⟩
              · show own_G p e below s _ _ _ (T42.setTop (mkF m 409 #[.val (Value.int x0), .val (Value.int x1), .val (Value.int x2), .val (Value.int x3), .val (Value.int x4), .val (Value.int x5), .val (Value.int ww), .val (Value.int (((x0.toUInt32 >>> ((7 : Int32) &&& 31).toUInt32).toInt32) &&& (3 : Int32))), .val (Value.int cl), .val (Value.int v0), .val (Value.int v0), .val (Value.int v1), .val (Value.int v2), .val (Value.int cnt), .val (Value.int r0), .val (Value.int r1), .val (Value.int r2), .val (Value.int d0), .val (Value.int (v1 - r1)), .val (Value.int d1), .val (Value.int (v2 - r2)), .val (Value.int d2), .val (Value.int q), .val (Value.ref ad1), .val (Value.int (own_dep n40_ V40_ D40_ q)), .val (Value.int (0 : Int32))] []))
                refine own_iload X42 hx hby at_409 rfl ?_
                show own_G p e below s _ _ _ (T42.setTop (mkF m 411 #[.val (Value.int x0), .val (Value.int x1), .val (Value.int x2), .val (Value.int x3), .val (Value.int x4), .val (Value.int x5), .val (Value.int ww), .val (Value.int (((x0.toUInt32 >>> ((7 : Int32) &&& 31).toUInt32).toInt32) &&& (3 : Int32))), .val (Value.int cl), .val (Value.int v0), .val (Value.int v0), .val (Value.int v1), .val (Value.int v2), .val (Value.int cnt), .val (Value.int r0), .val (Value.int r1), .val (Value.int r2), .val (Value.int d0), .val (Value.int (v1 - r1)), .val (Value.int d1), .val (Value.int (v2 - r2)), .val (Value.int d2), .val (Value.int q), .val (Value.ref ad1), .val (Value.int (own_dep n40_ V40_ D40_ q)), .val (Value.int (0 : Int32))] [(Value.int (own_dep n40_ V40_ D40_ q))]))
                refine own_iload X42 hx hby at_411 rfl ?_
                show own_G p e below s _ _ _ (T42.setTop (mkF m 413 #[.val (Value.int x0), .val (Value.int x1), .val (Value.int x2), .val (Value.int x3), .val (Value.int x4), .val (Value.int x5), .val (Value.int ww), .val (Value.int (((x0.toUInt32 >>> ((7 : Int32) &&& 31).toUInt32).toInt32) &&& (3 : Int32))), .val (Value.int cl), .val (Value.int v0), .val (Value.int v0), .val (Value.int v1), .val (Value.int v2), .val (Value.int cnt), .val (Value.int r0), .val (Value.int r1), .val (Value.int r2), .val (Value.int d0), .val (Value.int (v1 - r1)), .val (Value.int d1), .val (Value.int (v2 - r2)), .val (Value.int d2), .val (Value.int q), .val (Value.ref ad1), .val (Value.int (own_dep n40_ V40_ D40_ q)), .val (Value.int (0 : Int32))] [(Value.int d1), (Value.int (own_dep n40_ V40_ D40_ q))]))
                refine own_icmp_ne X42 hx hby at_413 (pc' := 420) (by decide) (by decide) (fun hb52 => by exfalso; rcases (LW.2.1 hb44 hb45).2 with y | y; exact hb51 y; exact hb52 y) (fun hb52 => ?_)
                show own_G p e below s _ _ _ (T42.setTop (mkF m 416 #[.val (Value.int x0), .val (Value.int x1), .val (Value.int x2), .val (Value.int x3), .val (Value.int x4), .val (Value.int x5), .val (Value.int ww), .val (Value.int (((x0.toUInt32 >>> ((7 : Int32) &&& 31).toUInt32).toInt32) &&& (3 : Int32))), .val (Value.int cl), .val (Value.int v0), .val (Value.int v0), .val (Value.int v1), .val (Value.int v2), .val (Value.int cnt), .val (Value.int r0), .val (Value.int r1), .val (Value.int r2), .val (Value.int d0), .val (Value.int (v1 - r1)), .val (Value.int d1), .val (Value.int (v2 - r2)), .val (Value.int d2), .val (Value.int q), .val (Value.ref ad1), .val (Value.int (own_dep n40_ V40_ D40_ q)), .val (Value.int (0 : Int32))] []))
                refine own_iconst X42 hx hby at_416 ?_
                show own_G p e below s _ _ _ (T42.setTop (mkF m 417 #[.val (Value.int x0), .val (Value.int x1), .val (Value.int x2), .val (Value.int x3), .val (Value.int x4), .val (Value.int x5), .val (Value.int ww), .val (Value.int (((x0.toUInt32 >>> ((7 : Int32) &&& 31).toUInt32).toInt32) &&& (3 : Int32))), .val (Value.int cl), .val (Value.int v0), .val (Value.int v0), .val (Value.int v1), .val (Value.int v2), .val (Value.int cnt), .val (Value.int r0), .val (Value.int r1), .val (Value.int r2), .val (Value.int d0), .val (Value.int (v1 - r1)), .val (Value.int d1), .val (Value.int (v2 - r2)), .val (Value.int d2), .val (Value.int q), .val (Value.ref ad1), .val (Value.int (own_dep n40_ V40_ D40_ q)), .val (Value.int (0 : Int32))] [(Value.int (1 : Int32))]))
                refine own_goto X42 hx hby at_417 (pc' := 421) (by decide) (by decide) ?_
                show own_G p e below s _ _ _ (T42.setTop (mkF m 421 #[.val (Value.int x0), .val (Value.int x1), .val (Value.int x2), .val (Value.int x3), .val (Value.int x4), .val (Value.int x5), .val (Value.int ww), .val (Value.int (((x0.toUInt32 >>> ((7 : Int32) &&& 31).toUInt32).toInt32) &&& (3 : Int32))), .val (Value.int cl), .val (Value.int v0), .val (Value.int v0), .val (Value.int v1), .val (Value.int v2), .val (Value.int cnt), .val (Value.int r0), .val (Value.int r1), .val (Value.int r2), .val (Value.int d0), .val (Value.int (v1 - r1)), .val (Value.int d1), .val (Value.int (v2 - r2)), .val (Value.int d2), .val (Value.int q), .val (Value.ref ad1), .val (Value.int (own_dep n40_ V40_ D40_ q)), .val (Value.int (0 : Int32))] [(Value.int (1 : Int32))]))
                refine own_retN X42 hx hby hlk (t := .boolean) Bd.returns (by simp) at_421 (by decide) (by decide) ?_
                exact ⟨rfl, N42⟩
          · show own_G p e below s _ _ _ (T42.setTop (mkF m 364 #[.val (Value.int x0), .val (Value.int x1), .val (Value.int x2), .val (Value.int x3), .val (Value.int x4), .val (Value.int x5), .val (Value.int ww), .val (Value.int (((x0.toUInt32 >>> ((7 : Int32) &&& 31).toUInt32).toInt32) &&& (3 : Int32))), .val (Value.int cl), .val (Value.int v0), .val (Value.int v0), .val (Value.int v1), .val (Value.int v2), .val (Value.int cnt), .val (Value.int r0), .val (Value.int r1), .val (Value.int r2), .val (Value.int d0), .val (Value.int (v1 - r1)), .val (Value.int d1), .val (Value.int (v2 - r2)), .val (Value.int d2), .val (Value.int q), .val (Value.ref ad1), .val (Value.int (own_dep n40_ V40_ D40_ q)), .val (Value.int (0 : Int32))] []))
            refine own_iload X42 hx hby at_364 rfl ?_
            show own_G p e below s _ _ _ (T42.setTop (mkF m 366 #[.val (Value.int x0), .val (Value.int x1), .val (Value.int x2), .val (Value.int x3), .val (Value.int x4), .val (Value.int x5), .val (Value.int ww), .val (Value.int (((x0.toUInt32 >>> ((7 : Int32) &&& 31).toUInt32).toInt32) &&& (3 : Int32))), .val (Value.int cl), .val (Value.int v0), .val (Value.int v0), .val (Value.int v1), .val (Value.int v2), .val (Value.int cnt), .val (Value.int r0), .val (Value.int r1), .val (Value.int r2), .val (Value.int d0), .val (Value.int (v1 - r1)), .val (Value.int d1), .val (Value.int (v2 - r2)), .val (Value.int d2), .val (Value.int q), .val (Value.ref ad1), .val (Value.int (own_dep n40_ V40_ D40_ q)), .val (Value.int (0 : Int32))] [(Value.int (own_dep n40_ V40_ D40_ q))]))
            refine own_iload X42 hx hby at_366 rfl ?_
            show own_G p e below s _ _ _ (T42.setTop (mkF m 368 #[.val (Value.int x0), .val (Value.int x1), .val (Value.int x2), .val (Value.int x3), .val (Value.int x4), .val (Value.int x5), .val (Value.int ww), .val (Value.int (((x0.toUInt32 >>> ((7 : Int32) &&& 31).toUInt32).toInt32) &&& (3 : Int32))), .val (Value.int cl), .val (Value.int v0), .val (Value.int v0), .val (Value.int v1), .val (Value.int v2), .val (Value.int cnt), .val (Value.int r0), .val (Value.int r1), .val (Value.int r2), .val (Value.int d0), .val (Value.int (v1 - r1)), .val (Value.int d1), .val (Value.int (v2 - r2)), .val (Value.int d2), .val (Value.int q), .val (Value.ref ad1), .val (Value.int (own_dep n40_ V40_ D40_ q)), .val (Value.int (0 : Int32))] [(Value.int d2), (Value.int (own_dep n40_ V40_ D40_ q))]))
            refine own_icmp_ne X42 hx hby at_368 (pc' := 375) (by decide) (by decide) (fun hb53 => by exfalso; exact hb53 (LW.1 hb44)) (fun hb53 => ?_)
            show own_G p e below s _ _ _ (T42.setTop (mkF m 371 #[.val (Value.int x0), .val (Value.int x1), .val (Value.int x2), .val (Value.int x3), .val (Value.int x4), .val (Value.int x5), .val (Value.int ww), .val (Value.int (((x0.toUInt32 >>> ((7 : Int32) &&& 31).toUInt32).toInt32) &&& (3 : Int32))), .val (Value.int cl), .val (Value.int v0), .val (Value.int v0), .val (Value.int v1), .val (Value.int v2), .val (Value.int cnt), .val (Value.int r0), .val (Value.int r1), .val (Value.int r2), .val (Value.int d0), .val (Value.int (v1 - r1)), .val (Value.int d1), .val (Value.int (v2 - r2)), .val (Value.int d2), .val (Value.int q), .val (Value.ref ad1), .val (Value.int (own_dep n40_ V40_ D40_ q)), .val (Value.int (0 : Int32))] []))
            refine own_iconst X42 hx hby at_371 ?_
            show own_G p e below s _ _ _ (T42.setTop (mkF m 372 #[.val (Value.int x0), .val (Value.int x1), .val (Value.int x2), .val (Value.int x3), .val (Value.int x4), .val (Value.int x5), .val (Value.int ww), .val (Value.int (((x0.toUInt32 >>> ((7 : Int32) &&& 31).toUInt32).toInt32) &&& (3 : Int32))), .val (Value.int cl), .val (Value.int v0), .val (Value.int v0), .val (Value.int v1), .val (Value.int v2), .val (Value.int cnt), .val (Value.int r0), .val (Value.int r1), .val (Value.int r2), .val (Value.int d0), .val (Value.int (v1 - r1)), .val (Value.int d1), .val (Value.int (v2 - r2)), .val (Value.int d2), .val (Value.int q), .val (Value.ref ad1), .val (Value.int (own_dep n40_ V40_ D40_ q)), .val (Value.int (0 : Int32))] [(Value.int (1 : Int32))]))
            refine own_goto X42 hx hby at_372 (pc' := 376) (by decide) (by decide) ?_
            show own_G p e below s _ _ _ (T42.setTop (mkF m 376 #[.val (Value.int x0), .val (Value.int x1), .val (Value.int x2), .val (Value.int x3), .val (Value.int x4), .val (Value.int x5), .val (Value.int ww), .val (Value.int (((x0.toUInt32 >>> ((7 : Int32) &&& 31).toUInt32).toInt32) &&& (3 : Int32))), .val (Value.int cl), .val (Value.int v0), .val (Value.int v0), .val (Value.int v1), .val (Value.int v2), .val (Value.int cnt), .val (Value.int r0), .val (Value.int r1), .val (Value.int r2), .val (Value.int d0), .val (Value.int (v1 - r1)), .val (Value.int d1), .val (Value.int (v2 - r2)), .val (Value.int d2), .val (Value.int q), .val (Value.ref ad1), .val (Value.int (own_dep n40_ V40_ D40_ q)), .val (Value.int (0 : Int32))] [(Value.int (1 : Int32))]))
            refine own_retN X42 hx hby hlk (t := .boolean) Bd.returns (by simp) at_376 (by decide) (by decide) ?_
            exact ⟨rfl, N42⟩
        · show own_G p e below s _ _ _ (T42.setTop (mkF m 350 #[.val (Value.int x0), .val (Value.int x1), .val (Value.int x2), .val (Value.int x3), .val (Value.int x4), .val (Value.int x5), .val (Value.int ww), .val (Value.int (((x0.toUInt32 >>> ((7 : Int32) &&& 31).toUInt32).toInt32) &&& (3 : Int32))), .val (Value.int cl), .val (Value.int v0), .val (Value.int v0), .val (Value.int v1), .val (Value.int v2), .val (Value.int cnt), .val (Value.int r0), .val (Value.int r1), .val (Value.int r2), .val (Value.int d0), .val (Value.int (v1 - r1)), .val (Value.int d1), .val (Value.int (v2 - r2)), .val (Value.int d2), .val (Value.int q), .val (Value.ref ad1), .val (Value.int (own_dep n40_ V40_ D40_ q)), .unset] []))
          refine own_iconst X42 hx hby at_350 ?_
          show own_G p e below s _ _ _ (T42.setTop (mkF m 351 #[.val (Value.int x0), .val (Value.int x1), .val (Value.int x2), .val (Value.int x3), .val (Value.int x4), .val (Value.int x5), .val (Value.int ww), .val (Value.int (((x0.toUInt32 >>> ((7 : Int32) &&& 31).toUInt32).toInt32) &&& (3 : Int32))), .val (Value.int cl), .val (Value.int v0), .val (Value.int v0), .val (Value.int v1), .val (Value.int v2), .val (Value.int cnt), .val (Value.int r0), .val (Value.int r1), .val (Value.int r2), .val (Value.int d0), .val (Value.int (v1 - r1)), .val (Value.int d1), .val (Value.int (v2 - r2)), .val (Value.int d2), .val (Value.int q), .val (Value.ref ad1), .val (Value.int (own_dep n40_ V40_ D40_ q)), .unset] [(Value.int (1 : Int32))]))
          refine own_goto X42 hx hby at_351 (pc' := 355) (by decide) (by decide) ?_
          show own_G p e below s _ _ _ (T42.setTop (mkF m 355 #[.val (Value.int x0), .val (Value.int x1), .val (Value.int x2), .val (Value.int x3), .val (Value.int x4), .val (Value.int x5), .val (Value.int ww), .val (Value.int (((x0.toUInt32 >>> ((7 : Int32) &&& 31).toUInt32).toInt32) &&& (3 : Int32))), .val (Value.int cl), .val (Value.int v0), .val (Value.int v0), .val (Value.int v1), .val (Value.int v2), .val (Value.int cnt), .val (Value.int r0), .val (Value.int r1), .val (Value.int r2), .val (Value.int d0), .val (Value.int (v1 - r1)), .val (Value.int d1), .val (Value.int (v2 - r2)), .val (Value.int d2), .val (Value.int q), .val (Value.ref ad1), .val (Value.int (own_dep n40_ V40_ D40_ q)), .unset] [(Value.int (1 : Int32))]))
          refine own_istore X42 hx hby at_355 (l' := #[.val (Value.int x0), .val (Value.int x1), .val (Value.int x2), .val (Value.int x3), .val (Value.int x4), .val (Value.int x5), .val (Value.int ww), .val (Value.int (((x0.toUInt32 >>> ((7 : Int32) &&& 31).toUInt32).toInt32) &&& (3 : Int32))), .val (Value.int cl), .val (Value.int v0), .val (Value.int v0), .val (Value.int v1), .val (Value.int v2), .val (Value.int cnt), .val (Value.int r0), .val (Value.int r1), .val (Value.int r2), .val (Value.int d0), .val (Value.int (v1 - r1)), .val (Value.int d1), .val (Value.int (v2 - r2)), .val (Value.int d2), .val (Value.int q), .val (Value.ref ad1), .val (Value.int (own_dep n40_ V40_ D40_ q)), .val (Value.int (1 : Int32))]) rfl ?_
          show own_G p e below s _ _ _ (T42.setTop (mkF m 357 #[.val (Value.int x0), .val (Value.int x1), .val (Value.int x2), .val (Value.int x3), .val (Value.int x4), .val (Value.int x5), .val (Value.int ww), .val (Value.int (((x0.toUInt32 >>> ((7 : Int32) &&& 31).toUInt32).toInt32) &&& (3 : Int32))), .val (Value.int cl), .val (Value.int v0), .val (Value.int v0), .val (Value.int v1), .val (Value.int v2), .val (Value.int cnt), .val (Value.int r0), .val (Value.int r1), .val (Value.int r2), .val (Value.int d0), .val (Value.int (v1 - r1)), .val (Value.int d1), .val (Value.int (v2 - r2)), .val (Value.int d2), .val (Value.int q), .val (Value.ref ad1), .val (Value.int (own_dep n40_ V40_ D40_ q)), .val (Value.int (1 : Int32))] []))
          refine own_iload X42 hx hby at_357 rfl ?_
          show own_G p e below s _ _ _ (T42.setTop (mkF m 359 #[.val (Value.int x0), .val (Value.int x1), .val (Value.int x2), .val (Value.int x3), .val (Value.int x4), .val (Value.int x5), .val (Value.int ww), .val (Value.int (((x0.toUInt32 >>> ((7 : Int32) &&& 31).toUInt32).toInt32) &&& (3 : Int32))), .val (Value.int cl), .val (Value.int v0), .val (Value.int v0), .val (Value.int v1), .val (Value.int v2), .val (Value.int cnt), .val (Value.int r0), .val (Value.int r1), .val (Value.int r2), .val (Value.int d0), .val (Value.int (v1 - r1)), .val (Value.int d1), .val (Value.int (v2 - r2)), .val (Value.int d2), .val (Value.int q), .val (Value.ref ad1), .val (Value.int (own_dep n40_ V40_ D40_ q)), .val (Value.int (1 : Int32))] [(Value.int q)]))
          refine own_iload X42 hx hby at_359 rfl ?_
          show own_G p e below s _ _ _ (T42.setTop (mkF m 361 #[.val (Value.int x0), .val (Value.int x1), .val (Value.int x2), .val (Value.int x3), .val (Value.int x4), .val (Value.int x5), .val (Value.int ww), .val (Value.int (((x0.toUInt32 >>> ((7 : Int32) &&& 31).toUInt32).toInt32) &&& (3 : Int32))), .val (Value.int cl), .val (Value.int v0), .val (Value.int v0), .val (Value.int v1), .val (Value.int v2), .val (Value.int cnt), .val (Value.int r0), .val (Value.int r1), .val (Value.int r2), .val (Value.int d0), .val (Value.int (v1 - r1)), .val (Value.int d1), .val (Value.int (v2 - r2)), .val (Value.int d2), .val (Value.int q), .val (Value.ref ad1), .val (Value.int (own_dep n40_ V40_ D40_ q)), .val (Value.int (1 : Int32))] [(Value.int v2), (Value.int q)]))
          refine own_icmp_ne X42 hx hby at_361 (pc' := 377) (by decide) (by decide) (fun hb54 => ?_) (fun hb54 => ?_)
          · show own_G p e below s _ _ _ (T42.setTop (mkF m 377 #[.val (Value.int x0), .val (Value.int x1), .val (Value.int x2), .val (Value.int x3), .val (Value.int x4), .val (Value.int x5), .val (Value.int ww), .val (Value.int (((x0.toUInt32 >>> ((7 : Int32) &&& 31).toUInt32).toInt32) &&& (3 : Int32))), .val (Value.int cl), .val (Value.int v0), .val (Value.int v0), .val (Value.int v1), .val (Value.int v2), .val (Value.int cnt), .val (Value.int r0), .val (Value.int r1), .val (Value.int r2), .val (Value.int d0), .val (Value.int (v1 - r1)), .val (Value.int d1), .val (Value.int (v2 - r2)), .val (Value.int d2), .val (Value.int q), .val (Value.ref ad1), .val (Value.int (own_dep n40_ V40_ D40_ q)), .val (Value.int (1 : Int32))] []))
            refine own_iload X42 hx hby at_377 rfl ?_
            show own_G p e below s _ _ _ (T42.setTop (mkF m 379 #[.val (Value.int x0), .val (Value.int x1), .val (Value.int x2), .val (Value.int x3), .val (Value.int x4), .val (Value.int x5), .val (Value.int ww), .val (Value.int (((x0.toUInt32 >>> ((7 : Int32) &&& 31).toUInt32).toInt32) &&& (3 : Int32))), .val (Value.int cl), .val (Value.int v0), .val (Value.int v0), .val (Value.int v1), .val (Value.int v2), .val (Value.int cnt), .val (Value.int r0), .val (Value.int r1), .val (Value.int r2), .val (Value.int d0), .val (Value.int (v1 - r1)), .val (Value.int d1), .val (Value.int (v2 - r2)), .val (Value.int d2), .val (Value.int q), .val (Value.ref ad1), .val (Value.int (own_dep n40_ V40_ D40_ q)), .val (Value.int (1 : Int32))] [(Value.int q)]))
            refine own_iload X42 hx hby at_379 rfl ?_
            show own_G p e below s _ _ _ (T42.setTop (mkF m 381 #[.val (Value.int x0), .val (Value.int x1), .val (Value.int x2), .val (Value.int x3), .val (Value.int x4), .val (Value.int x5), .val (Value.int ww), .val (Value.int (((x0.toUInt32 >>> ((7 : Int32) &&& 31).toUInt32).toInt32) &&& (3 : Int32))), .val (Value.int cl), .val (Value.int v0), .val (Value.int v0), .val (Value.int v1), .val (Value.int v2), .val (Value.int cnt), .val (Value.int r0), .val (Value.int r1), .val (Value.int r2), .val (Value.int d0), .val (Value.int (v1 - r1)), .val (Value.int d1), .val (Value.int (v2 - r2)), .val (Value.int d2), .val (Value.int q), .val (Value.ref ad1), .val (Value.int (own_dep n40_ V40_ D40_ q)), .val (Value.int (1 : Int32))] [(Value.int v1), (Value.int q)]))
            refine own_icmp_ne X42 hx hby at_381 (pc' := 422) (by decide) (by decide) (fun hb55 => ?_) (fun hb55 => ?_)
            · show own_G p e below s _ _ _ (T42.setTop (mkF m 422 #[.val (Value.int x0), .val (Value.int x1), .val (Value.int x2), .val (Value.int x3), .val (Value.int x4), .val (Value.int x5), .val (Value.int ww), .val (Value.int (((x0.toUInt32 >>> ((7 : Int32) &&& 31).toUInt32).toInt32) &&& (3 : Int32))), .val (Value.int cl), .val (Value.int v0), .val (Value.int v0), .val (Value.int v1), .val (Value.int v2), .val (Value.int cnt), .val (Value.int r0), .val (Value.int r1), .val (Value.int r2), .val (Value.int d0), .val (Value.int (v1 - r1)), .val (Value.int d1), .val (Value.int (v2 - r2)), .val (Value.int d2), .val (Value.int q), .val (Value.ref ad1), .val (Value.int (own_dep n40_ V40_ D40_ q)), .val (Value.int (1 : Int32))] []))
              refine own_iload X42 hx hby at_422 rfl ?_
              show own_G p e below s _ _ _ (T42.setTop (mkF m 424 #[.val (Value.int x0), .val (Value.int x1), .val (Value.int x2), .val (Value.int x3), .val (Value.int x4), .val (Value.int x5), .val (Value.int ww), .val (Value.int (((x0.toUInt32 >>> ((7 : Int32) &&& 31).toUInt32).toInt32) &&& (3 : Int32))), .val (Value.int cl), .val (Value.int v0), .val (Value.int v0), .val (Value.int v1), .val (Value.int v2), .val (Value.int cnt), .val (Value.int r0), .val (Value.int r1), .val (Value.int r2), .val (Value.int d0), .val (Value.int (v1 - r1)), .val (Value.int d1), .val (Value.int (v2 - r2)), .val (Value.int d2), .val (Value.int q), .val (Value.ref ad1), .val (Value.int (own_dep n40_ V40_ D40_ q)), .val (Value.int (1 : Int32))] [(Value.int q)]))
              refine own_iload X42 hx hby at_424 rfl ?_
              show own_G p e below s _ _ _ (T42.setTop (mkF m 426 #[.val (Value.int x0), .val (Value.int x1), .val (Value.int x2), .val (Value.int x3), .val (Value.int x4), .val (Value.int x5), .val (Value.int ww), .val (Value.int (((x0.toUInt32 >>> ((7 : Int32) &&& 31).toUInt32).toInt32) &&& (3 : Int32))), .val (Value.int cl), .val (Value.int v0), .val (Value.int v0), .val (Value.int v1), .val (Value.int v2), .val (Value.int cnt), .val (Value.int r0), .val (Value.int r1), .val (Value.int r2), .val (Value.int d0), .val (Value.int (v1 - r1)), .val (Value.int d1), .val (Value.int (v2 - r2)), .val (Value.int d2), .val (Value.int q), .val (Value.ref ad1), .val (Value.int (own_dep n40_ V40_ D40_ q)), .val (Value.int (1 : Int32))] [(Value.int v0), (Value.int q)]))
              refine own_icmp_ne X42 hx hby at_426 (pc' := 472) (by decide) (by decide) (fun hb56 => ?_) (fun hb56 => ?_)
              · show own_G p e below s _ _ _ (T42.setTop (mkF m 472 #[.val (Value.int x0), .val (Value.int x1), .val (Value.int x2), .val (Value.int x3), .val (Value.int x4), .val (Value.int x5), .val (Value.int ww), .val (Value.int (((x0.toUInt32 >>> ((7 : Int32) &&& 31).toUInt32).toInt32) &&& (3 : Int32))), .val (Value.int cl), .val (Value.int v0), .val (Value.int v0), .val (Value.int v1), .val (Value.int v2), .val (Value.int cnt), .val (Value.int r0), .val (Value.int r1), .val (Value.int r2), .val (Value.int d0), .val (Value.int (v1 - r1)), .val (Value.int d1), .val (Value.int (v2 - r2)), .val (Value.int d2), .val (Value.int q), .val (Value.ref ad1), .val (Value.int (own_dep n40_ V40_ D40_ q)), .val (Value.int (1 : Int32))] []))
                refine own_iload X42 hx hby at_472 rfl ?_
                show own_G p e below s _ _ _ (T42.setTop (mkF m 474 #[.val (Value.int x0), .val (Value.int x1), .val (Value.int x2), .val (Value.int x3), .val (Value.int x4), .val (Value.int x5), .val (Value.int ww), .val (Value.int (((x0.toUInt32 >>> ((7 : Int32) &&& 31).toUInt32).toInt32) &&& (3 : Int32))), .val (Value.int cl), .val (Value.int v0), .val (Value.int v0), .val (Value.int v1), .val (Value.int v2), .val (Value.int cnt), .val (Value.int r0), .val (Value.int r1), .val (Value.int r2), .val (Value.int d0), .val (Value.int (v1 - r1)), .val (Value.int d1), .val (Value.int (v2 - r2)), .val (Value.int d2), .val (Value.int q), .val (Value.ref ad1), .val (Value.int (own_dep n40_ V40_ D40_ q)), .val (Value.int (1 : Int32))] [(Value.int (own_dep n40_ V40_ D40_ q))]))
                refine own_if_ne X42 hx hby at_474 (pc' := 481) (by decide) (by decide) (fun hb57 => by exfalso; exact hb57 (LW.2.2.2 hb54 hb55 (fun z => hb56 z.1))) (fun hb57 => ?_)
                show own_G p e below s _ _ _ (T42.setTop (mkF m 477 #[.val (Value.int x0), .val (Value.int x1), .val (Value.int x2), .val (Value.int x3), .val (Value.int x4), .val (Value.int x5), .val (Value.int ww), .val (Value.int (((x0.toUInt32 >>> ((7 : Int32) &&& 31).toUInt32).toInt32) &&& (3 : Int32))), .val (Value.int cl), .val (Value.int v0), .val (Value.int v0), .val (Value.int v1), .val (Value.int v2), .val (Value.int cnt), .val (Value.int r0), .val (Value.int r1), .val (Value.int r2), .val (Value.int d0), .val (Value.int (v1 - r1)), .val (Value.int d1), .val (Value.int (v2 - r2)), .val (Value.int d2), .val (Value.int q), .val (Value.ref ad1), .val (Value.int (own_dep n40_ V40_ D40_ q)), .val (Value.int (1 : Int32))] []))
                refine own_iconst X42 hx hby at_477 ?_
                show own_G p e below s _ _ _ (T42.setTop (mkF m 478 #[.val (Value.int x0), .val (Value.int x1), .val (Value.int x2), .val (Value.int x3), .val (Value.int x4), .val (Value.int x5), .val (Value.int ww), .val (Value.int (((x0.toUInt32 >>> ((7 : Int32) &&& 31).toUInt32).toInt32) &&& (3 : Int32))), .val (Value.int cl), .val (Value.int v0), .val (Value.int v0), .val (Value.int v1), .val (Value.int v2), .val (Value.int cnt), .val (Value.int r0), .val (Value.int r1), .val (Value.int r2), .val (Value.int d0), .val (Value.int (v1 - r1)), .val (Value.int d1), .val (Value.int (v2 - r2)), .val (Value.int d2), .val (Value.int q), .val (Value.ref ad1), .val (Value.int (own_dep n40_ V40_ D40_ q)), .val (Value.int (1 : Int32))] [(Value.int (1 : Int32))]))
                refine own_goto X42 hx hby at_478 (pc' := 482) (by decide) (by decide) ?_
                show own_G p e below s _ _ _ (T42.setTop (mkF m 482 #[.val (Value.int x0), .val (Value.int x1), .val (Value.int x2), .val (Value.int x3), .val (Value.int x4), .val (Value.int x5), .val (Value.int ww), .val (Value.int (((x0.toUInt32 >>> ((7 : Int32) &&& 31).toUInt32).toInt32) &&& (3 : Int32))), .val (Value.int cl), .val (Value.int v0), .val (Value.int v0), .val (Value.int v1), .val (Value.int v2), .val (Value.int cnt), .val (Value.int r0), .val (Value.int r1), .val (Value.int r2), .val (Value.int d0), .val (Value.int (v1 - r1)), .val (Value.int d1), .val (Value.int (v2 - r2)), .val (Value.int d2), .val (Value.int q), .val (Value.ref ad1), .val (Value.int (own_dep n40_ V40_ D40_ q)), .val (Value.int (1 : Int32))] [(Value.int (1 : Int32))]))
                refine own_retN X42 hx hby hlk (t := .boolean) Bd.returns (by simp) at_482 (by decide) (by decide) ?_
                exact ⟨rfl, N42⟩
              · show own_G p e below s _ _ _ (T42.setTop (mkF m 429 #[.val (Value.int x0), .val (Value.int x1), .val (Value.int x2), .val (Value.int x3), .val (Value.int x4), .val (Value.int x5), .val (Value.int ww), .val (Value.int (((x0.toUInt32 >>> ((7 : Int32) &&& 31).toUInt32).toInt32) &&& (3 : Int32))), .val (Value.int cl), .val (Value.int v0), .val (Value.int v0), .val (Value.int v1), .val (Value.int v2), .val (Value.int cnt), .val (Value.int r0), .val (Value.int r1), .val (Value.int r2), .val (Value.int d0), .val (Value.int (v1 - r1)), .val (Value.int d1), .val (Value.int (v2 - r2)), .val (Value.int d2), .val (Value.int q), .val (Value.ref ad1), .val (Value.int (own_dep n40_ V40_ D40_ q)), .val (Value.int (1 : Int32))] []))
                refine own_iload X42 hx hby at_429 rfl ?_
                show own_G p e below s _ _ _ (T42.setTop (mkF m 431 #[.val (Value.int x0), .val (Value.int x1), .val (Value.int x2), .val (Value.int x3), .val (Value.int x4), .val (Value.int x5), .val (Value.int ww), .val (Value.int (((x0.toUInt32 >>> ((7 : Int32) &&& 31).toUInt32).toInt32) &&& (3 : Int32))), .val (Value.int cl), .val (Value.int v0), .val (Value.int v0), .val (Value.int v1), .val (Value.int v2), .val (Value.int cnt), .val (Value.int r0), .val (Value.int r1), .val (Value.int r2), .val (Value.int d0), .val (Value.int (v1 - r1)), .val (Value.int d1), .val (Value.int (v2 - r2)), .val (Value.int d2), .val (Value.int q), .val (Value.ref ad1), .val (Value.int (own_dep n40_ V40_ D40_ q)), .val (Value.int (1 : Int32))] [(Value.int cl)]))
                refine own_if_ne X42 hx hby at_431 (pc' := 472) (by decide) (by decide) (fun hb58 => ?_) (fun hb58 => by exfalso; first | exact hb58 hb7 | exact hb7 hb58)
                show own_G p e below s _ _ _ (T42.setTop (mkF m 472 #[.val (Value.int x0), .val (Value.int x1), .val (Value.int x2), .val (Value.int x3), .val (Value.int x4), .val (Value.int x5), .val (Value.int ww), .val (Value.int (((x0.toUInt32 >>> ((7 : Int32) &&& 31).toUInt32).toInt32) &&& (3 : Int32))), .val (Value.int cl), .val (Value.int v0), .val (Value.int v0), .val (Value.int v1), .val (Value.int v2), .val (Value.int cnt), .val (Value.int r0), .val (Value.int r1), .val (Value.int r2), .val (Value.int d0), .val (Value.int (v1 - r1)), .val (Value.int d1), .val (Value.int (v2 - r2)), .val (Value.int d2), .val (Value.int q), .val (Value.ref ad1), .val (Value.int (own_dep n40_ V40_ D40_ q)), .val (Value.int (1 : Int32))] []))
                refine own_iload X42 hx hby at_472 rfl ?_
                show own_G p e below s _ _ _ (T42.setTop (mkF m 474 #[.val (Value.int x0), .val (Value.int x1), .val (Value.int x2), .val (Value.int x3), .val (Value.int x4), .val (Value.int x5), .val (Value.int ww), .val (Value.int (((x0.toUInt32 >>> ((7 : Int32) &&& 31).toUInt32).toInt32) &&& (3 : Int32))), .val (Value.int cl), .val (Value.int v0), .val (Value.int v0), .val (Value.int v1), .val (Value.int v2), .val (Value.int cnt), .val (Value.int r0), .val (Value.int r1), .val (Value.int r2), .val (Value.int d0), .val (Value.int (v1 - r1)), .val (Value.int d1), .val (Value.int (v2 - r2)), .val (Value.int d2), .val (Value.int q), .val (Value.ref ad1), .val (Value.int (own_dep n40_ V40_ D40_ q)), .val (Value.int (1 : Int32))] [(Value.int (own_dep n40_ V40_ D40_ q))]))
                refine own_if_ne X42 hx hby at_474 (pc' := 481) (by decide) (by decide) (fun hb59 => by exfalso; exact hb59 (LW.2.2.2 hb54 hb55 (fun z => hb58 z.2))) (fun hb59 => ?_)
                show own_G p e below s _ _ _ (T42.setTop (mkF m 477 #[.val (Value.int x0), .val (Value.int x1), .val (Value.int x2), .val (Value.int x3), .val (Value.int x4), .val (Value.int x5), .val (Value.int ww), .val (Value.int (((x0.toUInt32 >>> ((7 : Int32) &&& 31).toUInt32).toInt32) &&& (3 : Int32))), .val (Value.int cl), .val (Value.int v0), .val (Value.int v0), .val (Value.int v1), .val (Value.int v2), .val (Value.int cnt), .val (Value.int r0), .val (Value.int r1), .val (Value.int r2), .val (Value.int d0), .val (Value.int (v1 - r1)), .val (Value.int d1), .val (Value.int (v2 - r2)), .val (Value.int d2), .val (Value.int q), .val (Value.ref ad1), .val (Value.int (own_dep n40_ V40_ D40_ q)), .val (Value.int (1 : Int32))] []))
                refine own_iconst X42 hx hby at_477 ?_
                show own_G p e below s _ _ _ (T42.setTop (mkF m 478 #[.val (Value.int x0), .val (Value.int x1), .val (Value.int x2), .val (Value.int x3), .val (Value.int x4), .val (Value.int x5), .val (Value.int ww), .val (Value.int (((x0.toUInt32 >>> ((7 : Int32) &&& 31).toUInt32).toInt32) &&& (3 : Int32))), .val (Value.int cl), .val (Value.int v0), .val (Value.int v0), .val (Value.int v1), .val (Value.int v2), .val (Value.int cnt), .val (Value.int r0), .val (Value.int r1), .val (Value.int r2), .val (Value.int d0), .val (Value.int (v1 - r1)), .val (Value.int d1), .val (Value.int (v2 - r2)), .val (Value.int d2), .val (Value.int q), .val (Value.ref ad1), .val (Value.int (own_dep n40_ V40_ D40_ q)), .val (Value.int (1 : Int32))] [(Value.int (1 : Int32))]))
                refine own_goto X42 hx hby at_478 (pc' := 482) (by decide) (by decide) ?_
                show own_G p e below s _ _ _ (T42.setTop (mkF m 482 #[.val (Value.int x0), .val (Value.int x1), .val (Value.int x2), .val (Value.int x3), .val (Value.int x4), .val (Value.int x5), .val (Value.int ww), .val (Value.int (((x0.toUInt32 >>> ((7 : Int32) &&& 31).toUInt32).toInt32) &&& (3 : Int32))), .val (Value.int cl), .val (Value.int v0), .val (Value.int v0), .val (Value.int v1), .val (Value.int v2), .val (Value.int cnt), .val (Value.int r0), .val (Value.int r1), .val (Value.int r2), .val (Value.int d0), .val (Value.int (v1 - r1)), .val (Value.int d1), .val (Value.int (v2 - r2)), .val (Value.int d2), .val (Value.int q), .val (Value.ref ad1), .val (Value.int (own_dep n40_ V40_ D40_ q)), .val (Value.int (1 : Int32))] [(Value.int (1 : Int32))]))
                refine own_retN X42 hx hby hlk (t := .boolean) Bd.returns (by simp) at_482 (by decide) (by decide) ?_
                exact ⟨rfl, N42⟩
            · show own_G p e below s _ _ _ (T42.setTop (mkF m 384 #[.val (Value.int x0), .val (Value.int x1), .val (Value.int x2), .val (Value.int x3), .val (Value.int x4), .val (Value.int x5), .val (Value.int ww), .val (Value.int (((x0.toUInt32 >>> ((7 : Int32) &&& 31).toUInt32).toInt32) &&& (3 : Int32))), .val (Value.int cl), .val (Value.int v0), .val (Value.int v0), .val (Value.int v1), .val (Value.int v2), .val (Value.int cnt), .val (Value.int r0), .val (Value.int r1), .val (Value.int r2), .val (Value.int d0), .val (Value.int (v1 - r1)), .val (Value.int d1), .val (Value.int (v2 - r2)), .val (Value.int d2), .val (Value.int q), .val (Value.ref ad1), .val (Value.int (own_dep n40_ V40_ D40_ q)), .val (Value.int (1 : Int32))] []))
              refine own_iload X42 hx hby at_384 rfl ?_
              show own_G p e below s _ _ _ (T42.setTop (mkF m 386 #[.val (Value.int x0), .val (Value.int x1), .val (Value.int x2), .val (Value.int x3), .val (Value.int x4), .val (Value.int x5), .val (Value.int ww), .val (Value.int (((x0.toUInt32 >>> ((7 : Int32) &&& 31).toUInt32).toInt32) &&& (3 : Int32))), .val (Value.int cl), .val (Value.int v0), .val (Value.int v0), .val (Value.int v1), .val (Value.int v2), .val (Value.int cnt), .val (Value.int r0), .val (Value.int r1), .val (Value.int r2), .val (Value.int d0), .val (Value.int (v1 - r1)), .val (Value.int d1), .val (Value.int (v2 - r2)), .val (Value.int d2), .val (Value.int q), .val (Value.ref ad1), .val (Value.int (own_dep n40_ V40_ D40_ q)), .val (Value.int (1 : Int32))] [(Value.int (1 : Int32))]))
              refine own_if_eq X42 hx hby at_386 (pc' := 404) (by decide) (by decide) (fun hb60 => by exfalso; revert hb60; decide) (fun hb60 => ?_)
              show own_G p e below s _ _ _ (T42.setTop (mkF m 389 #[.val (Value.int x0), .val (Value.int x1), .val (Value.int x2), .val (Value.int x3), .val (Value.int x4), .val (Value.int x5), .val (Value.int ww), .val (Value.int (((x0.toUInt32 >>> ((7 : Int32) &&& 31).toUInt32).toInt32) &&& (3 : Int32))), .val (Value.int cl), .val (Value.int v0), .val (Value.int v0), .val (Value.int v1), .val (Value.int v2), .val (Value.int cnt), .val (Value.int r0), .val (Value.int r1), .val (Value.int r2), .val (Value.int d0), .val (Value.int (v1 - r1)), .val (Value.int d1), .val (Value.int (v2 - r2)), .val (Value.int d2), .val (Value.int q), .val (Value.ref ad1), .val (Value.int (own_dep n40_ V40_ D40_ q)), .val (Value.int (1 : Int32))] []))
              refine own_iload X42 hx hby at_389 rfl ?_
              show own_G p e below s _ _ _ (T42.setTop (mkF m 391 #[.val (Value.int x0), .val (Value.int x1), .val (Value.int x2), .val (Value.int x3), .val (Value.int x4), .val (Value.int x5), .val (Value.int ww), .val (Value.int (((x0.toUInt32 >>> ((7 : Int32) &&& 31).toUInt32).toInt32) &&& (3 : Int32))), .val (Value.int cl), .val (Value.int v0), .val (Value.int v0), .val (Value.int v1), .val (Value.int v2), .val (Value.int cnt), .val (Value.int r0), .val (Value.int r1), .val (Value.int r2), .val (Value.int d0), .val (Value.int (v1 - r1)), .val (Value.int d1), .val (Value.int (v2 - r2)), .val (Value.int d2), .val (Value.int q), .val (Value.ref ad1), .val (Value.int (own_dep n40_ V40_ D40_ q)), .val (Value.int (1 : Int32))] [(Value.int (own_dep n40_ V40_ D40_ q))]))
              refine own_iload X42 hx hby at_391 rfl ?_
              show own_G p e below s _ _ _ (T42.setTop (mkF m 393 #[.val (Value.int x0), .val (Value.int x1), .val (Value.int x2), .val (Value.int x3), .val (Value.int x4), .val (Value.int x5), .val (Value.int ww), .val (Value.int (((x0.toUInt32 >>> ((7 : Int32) &&& 31).toUInt32).toInt32) &&& (3 : Int32))), .val (Value.int cl), .val (Value.int v0), .val (Value.int v0), .val (Value.int v1), .val (Value.int v2), .val (Value.int cnt), .val (Value.int r0), .val (Value.int r1), .val (Value.int r2), .val (Value.int d0), .val (Value.int (v1 - r1)), .val (Value.int d1), .val (Value.int (v2 - r2)), .val (Value.int d2), .val (Value.int q), .val (Value.ref ad1), .val (Value.int (own_dep n40_ V40_ D40_ q)), .val (Value.int (1 : Int32))] [(Value.int d1), (Value.int (own_dep n40_ V40_ D40_ q))]))
              refine own_icmp_ne X42 hx hby at_393 (pc' := 400) (by decide) (by decide) (fun hb61 => by exfalso; exact hb61 ((LW.2.1 hb54 hb55).1 hb43)) (fun hb61 => ?_)
              show own_G p e below s _ _ _ (T42.setTop (mkF m 396 #[.val (Value.int x0), .val (Value.int x1), .val (Value.int x2), .val (Value.int x3), .val (Value.int x4), .val (Value.int x5), .val (Value.int ww), .val (Value.int (((x0.toUInt32 >>> ((7 : Int32) &&& 31).toUInt32).toInt32) &&& (3 : Int32))), .val (Value.int cl), .val (Value.int v0), .val (Value.int v0), .val (Value.int v1), .val (Value.int v2), .val (Value.int cnt), .val (Value.int r0), .val (Value.int r1), .val (Value.int r2), .val (Value.int d0), .val (Value.int (v1 - r1)), .val (Value.int d1), .val (Value.int (v2 - r2)), .val (Value.int d2), .val (Value.int q), .val (Value.ref ad1), .val (Value.int (own_dep n40_ V40_ D40_ q)), .val (Value.int (1 : Int32))] []))
              refine own_iconst X42 hx hby at_396 ?_
              show own_G p e below s _ _ _ (T42.setTop (mkF m 397 #[.val (Value.int x0), .val (Value.int x1), .val (Value.int x2), .val (Value.int x3), .val (Value.int x4), .val (Value.int x5), .val (Value.int ww), .val (Value.int (((x0.toUInt32 >>> ((7 : Int32) &&& 31).toUInt32).toInt32) &&& (3 : Int32))), .val (Value.int cl), .val (Value.int v0), .val (Value.int v0), .val (Value.int v1), .val (Value.int v2), .val (Value.int cnt), .val (Value.int r0), .val (Value.int r1), .val (Value.int r2), .val (Value.int d0), .val (Value.int (v1 - r1)), .val (Value.int d1), .val (Value.int (v2 - r2)), .val (Value.int d2), .val (Value.int q), .val (Value.ref ad1), .val (Value.int (own_dep n40_ V40_ D40_ q)), .val (Value.int (1 : Int32))] [(Value.int (1 : Int32))]))
              refine own_goto X42 hx hby at_397 (pc' := 421) (by decide) (by decide) ?_
              show own_G p e below s _ _ _ (T42.setTop (mkF m 421 #[.val (Value.int x0), .val (Value.int x1), .val (Value.int x2), .val (Value.int x3), .val (Value.int x4), .val (Value.int x5), .val (Value.int ww), .val (Value.int (((x0.toUInt32 >>> ((7 : Int32) &&& 31).toUInt32).toInt32) &&& (3 : Int32))), .val (Value.int cl), .val (Value.int v0), .val (Value.int v0), .val (Value.int v1), .val (Value.int v2), .val (Value.int cnt), .val (Value.int r0), .val (Value.int r1), .val (Value.int r2), .val (Value.int d0), .val (Value.int (v1 - r1)), .val (Value.int d1), .val (Value.int (v2 - r2)), .val (Value.int d2), .val (Value.int q), .val (Value.ref ad1), .val (Value.int (own_dep n40_ V40_ D40_ q)), .val (Value.int (1 : Int32))] [(Value.int (1 : Int32))]))
              refine own_retN X42 hx hby hlk (t := .boolean) Bd.returns (by simp) at_421 (by decide) (by decide) ?_
              exact ⟨rfl, N42⟩
          · show own_G p e below s _ _ _ (T42.setTop (mkF m 364 #[.val (Value.int x0), .val (Value.int x1), .val (Value.int x2), .val (Value.int x3), .val (Value.int x4), .val (Value.int x5), .val (Value.int ww), .val (Value.int (((x0.toUInt32 >>> ((7 : Int32) &&& 31).toUInt32).toInt32) &&& (3 : Int32))), .val (Value.int cl), .val (Value.int v0), .val (Value.int v0), .val (Value.int v1), .val (Value.int v2), .val (Value.int cnt), .val (Value.int r0), .val (Value.int r1), .val (Value.int r2), .val (Value.int d0), .val (Value.int (v1 - r1)), .val (Value.int d1), .val (Value.int (v2 - r2)), .val (Value.int d2), .val (Value.int q), .val (Value.ref ad1), .val (Value.int (own_dep n40_ V40_ D40_ q)), .val (Value.int (1 : Int32))] []))
            refine own_iload X42 hx hby at_364 rfl ?_
            show own_G p e below s _ _ _ (T42.setTop (mkF m 366 #[.val (Value.int x0), .val (Value.int x1), .val (Value.int x2), .val (Value.int x3), .val (Value.int x4), .val (Value.int x5), .val (Value.int ww), .val (Value.int (((x0.toUInt32 >>> ((7 : Int32) &&& 31).toUInt32).toInt32) &&& (3 : Int32))), .val (Value.int cl), .val (Value.int v0), .val (Value.int v0), .val (Value.int v1), .val (Value.int v2), .val (Value.int cnt), .val (Value.int r0), .val (Value.int r1), .val (Value.int r2), .val (Value.int d0), .val (Value.int (v1 - r1)), .val (Value.int d1), .val (Value.int (v2 - r2)), .val (Value.int d2), .val (Value.int q), .val (Value.ref ad1), .val (Value.int (own_dep n40_ V40_ D40_ q)), .val (Value.int (1 : Int32))] [(Value.int (own_dep n40_ V40_ D40_ q))]))
            refine own_iload X42 hx hby at_366 rfl ?_
            show own_G p e below s _ _ _ (T42.setTop (mkF m 368 #[.val (Value.int x0), .val (Value.int x1), .val (Value.int x2), .val (Value.int x3), .val (Value.int x4), .val (Value.int x5), .val (Value.int ww), .val (Value.int (((x0.toUInt32 >>> ((7 : Int32) &&& 31).toUInt32).toInt32) &&& (3 : Int32))), .val (Value.int cl), .val (Value.int v0), .val (Value.int v0), .val (Value.int v1), .val (Value.int v2), .val (Value.int cnt), .val (Value.int r0), .val (Value.int r1), .val (Value.int r2), .val (Value.int d0), .val (Value.int (v1 - r1)), .val (Value.int d1), .val (Value.int (v2 - r2)), .val (Value.int d2), .val (Value.int q), .val (Value.ref ad1), .val (Value.int (own_dep n40_ V40_ D40_ q)), .val (Value.int (1 : Int32))] [(Value.int d2), (Value.int (own_dep n40_ V40_ D40_ q))]))
            refine own_icmp_ne X42 hx hby at_368 (pc' := 375) (by decide) (by decide) (fun hb62 => by exfalso; exact hb62 (LW.1 hb54)) (fun hb62 => ?_)
            show own_G p e below s _ _ _ (T42.setTop (mkF m 371 #[.val (Value.int x0), .val (Value.int x1), .val (Value.int x2), .val (Value.int x3), .val (Value.int x4), .val (Value.int x5), .val (Value.int ww), .val (Value.int (((x0.toUInt32 >>> ((7 : Int32) &&& 31).toUInt32).toInt32) &&& (3 : Int32))), .val (Value.int cl), .val (Value.int v0), .val (Value.int v0), .val (Value.int v1), .val (Value.int v2), .val (Value.int cnt), .val (Value.int r0), .val (Value.int r1), .val (Value.int r2), .val (Value.int d0), .val (Value.int (v1 - r1)), .val (Value.int d1), .val (Value.int (v2 - r2)), .val (Value.int d2), .val (Value.int q), .val (Value.ref ad1), .val (Value.int (own_dep n40_ V40_ D40_ q)), .val (Value.int (1 : Int32))] []))
            refine own_iconst X42 hx hby at_371 ?_
            show own_G p e below s _ _ _ (T42.setTop (mkF m 372 #[.val (Value.int x0), .val (Value.int x1), .val (Value.int x2), .val (Value.int x3), .val (Value.int x4), .val (Value.int x5), .val (Value.int ww), .val (Value.int (((x0.toUInt32 >>> ((7 : Int32) &&& 31).toUInt32).toInt32) &&& (3 : Int32))), .val (Value.int cl), .val (Value.int v0), .val (Value.int v0), .val (Value.int v1), .val (Value.int v2), .val (Value.int cnt), .val (Value.int r0), .val (Value.int r1), .val (Value.int r2), .val (Value.int d0), .val (Value.int (v1 - r1)), .val (Value.int d1), .val (Value.int (v2 - r2)), .val (Value.int d2), .val (Value.int q), .val (Value.ref ad1), .val (Value.int (own_dep n40_ V40_ D40_ q)), .val (Value.int (1 : Int32))] [(Value.int (1 : Int32))]))
            refine own_goto X42 hx hby at_372 (pc' := 376) (by decide) (by decide) ?_
            show own_G p e below s _ _ _ (T42.setTop (mkF m 376 #[.val (Value.int x0), .val (Value.int x1), .val (Value.int x2), .val (Value.int x3), .val (Value.int x4), .val (Value.int x5), .val (Value.int ww), .val (Value.int (((x0.toUInt32 >>> ((7 : Int32) &&& 31).toUInt32).toInt32) &&& (3 : Int32))), .val (Value.int cl), .val (Value.int v0), .val (Value.int v0), .val (Value.int v1), .val (Value.int v2), .val (Value.int cnt), .val (Value.int r0), .val (Value.int r1), .val (Value.int r2), .val (Value.int d0), .val (Value.int (v1 - r1)), .val (Value.int d1), .val (Value.int (v2 - r2)), .val (Value.int d2), .val (Value.int q), .val (Value.ref ad1), .val (Value.int (own_dep n40_ V40_ D40_ q)), .val (Value.int (1 : Int32))] [(Value.int (1 : Int32))]))
            refine own_retN X42 hx hby hlk (t := .boolean) Bd.returns (by simp) at_376 (by decide) (by decide) ?_
            exact ⟨rfl, N42⟩
    have J234 : ∀ (d0 d1 d2 : Int32) (hd0 : d0 = own_d0 r0) (hd1 : d1 = own_d1 cl v0 r1 (v1 - r1) d0) (hd2 : d2 = own_d2 cl v0 v1 r2 (v2 - r2) d0 d1), own_G p e below s (own_rm0_Q Z x0 x1 x2 x3 x4 x5 h0 n0) 24 1280 (s₁.setTop (mkF m 234 #[.val (Value.int x0), .val (Value.int x1), .val (Value.int x2), .val (Value.int x3), .val (Value.int x4), .val (Value.int x5), .val (Value.int ww), .val (Value.int (((x0.toUInt32 >>> ((7 : Int32) &&& 31).toUInt32).toInt32) &&& (3 : Int32))), .val (Value.int cl), .val (Value.int v0), .val (Value.int v0), .val (Value.int v1), .val (Value.int v2), .val (Value.int cnt), .val (Value.int r0), .val (Value.int r1), .val (Value.int r2), .val (Value.int d0), .val (Value.int (v1 - r1)), .val (Value.int d1), .val (Value.int (v2 - r2)), .val (Value.int d2), .unset, .unset, .unset, .unset] [])) := by
      intro d0 d1 d2 hd0 hd1 hd2
      show own_G p e below s _ _ _ (s₁.setTop (mkF m 234 #[.val (Value.int x0), .val (Value.int x1), .val (Value.int x2), .val (Value.int x3), .val (Value.int x4), .val (Value.int x5), .val (Value.int ww), .val (Value.int (((x0.toUInt32 >>> ((7 : Int32) &&& 31).toUInt32).toInt32) &&& (3 : Int32))), .val (Value.int cl), .val (Value.int v0), .val (Value.int v0), .val (Value.int v1), .val (Value.int v2), .val (Value.int cnt), .val (Value.int r0), .val (Value.int r1), .val (Value.int r2), .val (Value.int d0), .val (Value.int (v1 - r1)), .val (Value.int d1), .val (Value.int (v2 - r2)), .val (Value.int d2), .unset, .unset, .unset, .unset] []))
      refine own_iload X0 hx hby at_234 rfl ?_
      show own_G p e below s _ _ _ (s₁.setTop (mkF m 236 #[.val (Value.int x0), .val (Value.int x1), .val (Value.int x2), .val (Value.int x3), .val (Value.int x4), .val (Value.int x5), .val (Value.int ww), .val (Value.int (((x0.toUInt32 >>> ((7 : Int32) &&& 31).toUInt32).toInt32) &&& (3 : Int32))), .val (Value.int cl), .val (Value.int v0), .val (Value.int v0), .val (Value.int v1), .val (Value.int v2), .val (Value.int cnt), .val (Value.int r0), .val (Value.int r1), .val (Value.int r2), .val (Value.int d0), .val (Value.int (v1 - r1)), .val (Value.int d1), .val (Value.int (v2 - r2)), .val (Value.int d2), .unset, .unset, .unset, .unset] [(Value.int (((x0.toUInt32 >>> ((7 : Int32) &&& 31).toUInt32).toInt32) &&& (3 : Int32)))]))
      refine own_iconst X0 hx hby at_236 ?_
      show own_G p e below s _ _ _ (s₁.setTop (mkF m 237 #[.val (Value.int x0), .val (Value.int x1), .val (Value.int x2), .val (Value.int x3), .val (Value.int x4), .val (Value.int x5), .val (Value.int ww), .val (Value.int (((x0.toUInt32 >>> ((7 : Int32) &&& 31).toUInt32).toInt32) &&& (3 : Int32))), .val (Value.int cl), .val (Value.int v0), .val (Value.int v0), .val (Value.int v1), .val (Value.int v2), .val (Value.int cnt), .val (Value.int r0), .val (Value.int r1), .val (Value.int r2), .val (Value.int d0), .val (Value.int (v1 - r1)), .val (Value.int d1), .val (Value.int (v2 - r2)), .val (Value.int d2), .unset, .unset, .unset, .unset] [(Value.int (1 : Int32)), (Value.int (((x0.toUInt32 >>> ((7 : Int32) &&& 31).toUInt32).toInt32) &&& (3 : Int32)))]))
      refine own_icmp_gt X0 hx hby at_237 (pc' := 258) (by decide) (by decide) (fun hb63 => ?_) (fun hb63 => ?_)
      · show own_G p e below s _ _ _ (s₁.setTop (mkF m 258 #[.val (Value.int x0), .val (Value.int x1), .val (Value.int x2), .val (Value.int x3), .val (Value.int x4), .val (Value.int x5), .val (Value.int ww), .val (Value.int (((x0.toUInt32 >>> ((7 : Int32) &&& 31).toUInt32).toInt32) &&& (3 : Int32))), .val (Value.int cl), .val (Value.int v0), .val (Value.int v0), .val (Value.int v1), .val (Value.int v2), .val (Value.int cnt), .val (Value.int r0), .val (Value.int r1), .val (Value.int r2), .val (Value.int d0), .val (Value.int (v1 - r1)), .val (Value.int d1), .val (Value.int (v2 - r2)), .val (Value.int d2), .unset, .unset, .unset, .unset] []))
        refine own_iload X0 hx hby at_258 rfl ?_
        show own_G p e below s _ _ _ (s₁.setTop (mkF m 260 #[.val (Value.int x0), .val (Value.int x1), .val (Value.int x2), .val (Value.int x3), .val (Value.int x4), .val (Value.int x5), .val (Value.int ww), .val (Value.int (((x0.toUInt32 >>> ((7 : Int32) &&& 31).toUInt32).toInt32) &&& (3 : Int32))), .val (Value.int cl), .val (Value.int v0), .val (Value.int v0), .val (Value.int v1), .val (Value.int v2), .val (Value.int cnt), .val (Value.int r0), .val (Value.int r1), .val (Value.int r2), .val (Value.int d0), .val (Value.int (v1 - r1)), .val (Value.int d1), .val (Value.int (v2 - r2)), .val (Value.int d2), .unset, .unset, .unset, .unset] [(Value.int (((x0.toUInt32 >>> ((7 : Int32) &&& 31).toUInt32).toInt32) &&& (3 : Int32)))]))
        refine own_iconst X0 hx hby at_260 ?_
        show own_G p e below s _ _ _ (s₁.setTop (mkF m 261 #[.val (Value.int x0), .val (Value.int x1), .val (Value.int x2), .val (Value.int x3), .val (Value.int x4), .val (Value.int x5), .val (Value.int ww), .val (Value.int (((x0.toUInt32 >>> ((7 : Int32) &&& 31).toUInt32).toInt32) &&& (3 : Int32))), .val (Value.int cl), .val (Value.int v0), .val (Value.int v0), .val (Value.int v1), .val (Value.int v2), .val (Value.int cnt), .val (Value.int r0), .val (Value.int r1), .val (Value.int r2), .val (Value.int d0), .val (Value.int (v1 - r1)), .val (Value.int d1), .val (Value.int (v2 - r2)), .val (Value.int d2), .unset, .unset, .unset, .unset] [(Value.int (2 : Int32)), (Value.int (((x0.toUInt32 >>> ((7 : Int32) &&& 31).toUInt32).toInt32) &&& (3 : Int32)))]))
        refine own_icmp_ne X0 hx hby at_261 (pc' := 274) (by decide) (by decide) (fun hb64 => ?_) (fun hb64 => ?_)
        · show own_G p e below s _ _ _ (s₁.setTop (mkF m 274 #[.val (Value.int x0), .val (Value.int x1), .val (Value.int x2), .val (Value.int x3), .val (Value.int x4), .val (Value.int x5), .val (Value.int ww), .val (Value.int (((x0.toUInt32 >>> ((7 : Int32) &&& 31).toUInt32).toInt32) &&& (3 : Int32))), .val (Value.int cl), .val (Value.int v0), .val (Value.int v0), .val (Value.int v1), .val (Value.int v2), .val (Value.int cnt), .val (Value.int r0), .val (Value.int r1), .val (Value.int r2), .val (Value.int d0), .val (Value.int (v1 - r1)), .val (Value.int d1), .val (Value.int (v2 - r2)), .val (Value.int d2), .unset, .unset, .unset, .unset] []))
          refine own_iload X0 hx hby at_274 rfl ?_
          show own_G p e below s _ _ _ (s₁.setTop (mkF m 276 #[.val (Value.int x0), .val (Value.int x1), .val (Value.int x2), .val (Value.int x3), .val (Value.int x4), .val (Value.int x5), .val (Value.int ww), .val (Value.int (((x0.toUInt32 >>> ((7 : Int32) &&& 31).toUInt32).toInt32) &&& (3 : Int32))), .val (Value.int cl), .val (Value.int v0), .val (Value.int v0), .val (Value.int v1), .val (Value.int v2), .val (Value.int cnt), .val (Value.int r0), .val (Value.int r1), .val (Value.int r2), .val (Value.int d0), .val (Value.int (v1 - r1)), .val (Value.int d1), .val (Value.int (v2 - r2)), .val (Value.int d2), .unset, .unset, .unset, .unset] [(Value.int x5)]))
          refine own_istore X0 hx hby at_276 (l' := #[.val (Value.int x0), .val (Value.int x1), .val (Value.int x2), .val (Value.int x3), .val (Value.int x4), .val (Value.int x5), .val (Value.int ww), .val (Value.int (((x0.toUInt32 >>> ((7 : Int32) &&& 31).toUInt32).toInt32) &&& (3 : Int32))), .val (Value.int cl), .val (Value.int v0), .val (Value.int v0), .val (Value.int v1), .val (Value.int v2), .val (Value.int cnt), .val (Value.int r0), .val (Value.int r1), .val (Value.int r2), .val (Value.int d0), .val (Value.int (v1 - r1)), .val (Value.int d1), .val (Value.int (v2 - r2)), .val (Value.int d2), .val (Value.int x5), .unset, .unset, .unset]) rfl ?_
          show own_G p e below s _ _ _ (s₁.setTop (mkF m 278 #[.val (Value.int x0), .val (Value.int x1), .val (Value.int x2), .val (Value.int x3), .val (Value.int x4), .val (Value.int x5), .val (Value.int ww), .val (Value.int (((x0.toUInt32 >>> ((7 : Int32) &&& 31).toUInt32).toInt32) &&& (3 : Int32))), .val (Value.int cl), .val (Value.int v0), .val (Value.int v0), .val (Value.int v1), .val (Value.int v2), .val (Value.int cnt), .val (Value.int r0), .val (Value.int r1), .val (Value.int r2), .val (Value.int d0), .val (Value.int (v1 - r1)), .val (Value.int d1), .val (Value.int (v2 - r2)), .val (Value.int d2), .val (Value.int x5), .unset, .unset, .unset] []))
          exact J278 d0 d1 d2 _ hd0 hd1 hd2
        · show own_G p e below s _ _ _ (s₁.setTop (mkF m 264 #[.val (Value.int x0), .val (Value.int x1), .val (Value.int x2), .val (Value.int x3), .val (Value.int x4), .val (Value.int x5), .val (Value.int ww), .val (Value.int (((x0.toUInt32 >>> ((7 : Int32) &&& 31).toUInt32).toInt32) &&& (3 : Int32))), .val (Value.int cl), .val (Value.int v0), .val (Value.int v0), .val (Value.int v1), .val (Value.int v2), .val (Value.int cnt), .val (Value.int r0), .val (Value.int r1), .val (Value.int r2), .val (Value.int d0), .val (Value.int (v1 - r1)), .val (Value.int d1), .val (Value.int (v2 - r2)), .val (Value.int d2), .unset, .unset, .unset, .unset] []))
          refine own_iload X0 hx hby at_264 rfl ?_
          show own_G p e below s _ _ _ (s₁.setTop (mkF m 266 #[.val (Value.int x0), .val (Value.int x1), .val (Value.int x2), .val (Value.int x3), .val (Value.int x4), .val (Value.int x5), .val (Value.int ww), .val (Value.int (((x0.toUInt32 >>> ((7 : Int32) &&& 31).toUInt32).toInt32) &&& (3 : Int32))), .val (Value.int cl), .val (Value.int v0), .val (Value.int v0), .val (Value.int v1), .val (Value.int v2), .val (Value.int cnt), .val (Value.int r0), .val (Value.int r1), .val (Value.int r2), .val (Value.int d0), .val (Value.int (v1 - r1)), .val (Value.int d1), .val (Value.int (v2 - r2)), .val (Value.int d2), .unset, .unset, .unset, .unset] [(Value.int x5)]))
          refine own_ldcI X0 hx hby hZ hown (own_w56 hw) at_266 ?_
          show own_G p e below s _ _ _ (s₁.setTop (mkF m 268 #[.val (Value.int x0), .val (Value.int x1), .val (Value.int x2), .val (Value.int x3), .val (Value.int x4), .val (Value.int x5), .val (Value.int ww), .val (Value.int (((x0.toUInt32 >>> ((7 : Int32) &&& 31).toUInt32).toInt32) &&& (3 : Int32))), .val (Value.int cl), .val (Value.int v0), .val (Value.int v0), .val (Value.int v1), .val (Value.int v2), .val (Value.int cnt), .val (Value.int r0), .val (Value.int r1), .val (Value.int r2), .val (Value.int d0), .val (Value.int (v1 - r1)), .val (Value.int d1), .val (Value.int (v2 - r2)), .val (Value.int d2), .unset, .unset, .unset, .unset] [(Value.int (-2147483648 : Int32)), (Value.int x5)]))
          refine own_ior X0 hx hby at_268 ?_
          show own_G p e below s _ _ _ (s₁.setTop (mkF m 269 #[.val (Value.int x0), .val (Value.int x1), .val (Value.int x2), .val (Value.int x3), .val (Value.int x4), .val (Value.int x5), .val (Value.int ww), .val (Value.int (((x0.toUInt32 >>> ((7 : Int32) &&& 31).toUInt32).toInt32) &&& (3 : Int32))), .val (Value.int cl), .val (Value.int v0), .val (Value.int v0), .val (Value.int v1), .val (Value.int v2), .val (Value.int cnt), .val (Value.int r0), .val (Value.int r1), .val (Value.int r2), .val (Value.int d0), .val (Value.int (v1 - r1)), .val (Value.int d1), .val (Value.int (v2 - r2)), .val (Value.int d2), .unset, .unset, .unset, .unset] [(Value.int (x5 ||| (-2147483648 : Int32)))]))
          refine own_istore X0 hx hby at_269 (l' := #[.val (Value.int x0), .val (Value.int x1), .val (Value.int x2), .val (Value.int x3), .val (Value.int x4), .val (Value.int x5), .val (Value.int ww), .val (Value.int (((x0.toUInt32 >>> ((7 : Int32) &&& 31).toUInt32).toInt32) &&& (3 : Int32))), .val (Value.int cl), .val (Value.int v0), .val (Value.int v0), .val (Value.int v1), .val (Value.int v2), .val (Value.int cnt), .val (Value.int r0), .val (Value.int r1), .val (Value.int r2), .val (Value.int d0), .val (Value.int (v1 - r1)), .val (Value.int d1), .val (Value.int (v2 - r2)), .val (Value.int d2), .val (Value.int (x5 ||| (-2147483648 : Int32))), .unset, .unset, .unset]) rfl ?_
          show own_G p e below s _ _ _ (s₁.setTop (mkF m 271 #[.val (Value.int x0), .val (Value.int x1), .val (Value.int x2), .val (Value.int x3), .val (Value.int x4), .val (Value.int x5), .val (Value.int ww), .val (Value.int (((x0.toUInt32 >>> ((7 : Int32) &&& 31).toUInt32).toInt32) &&& (3 : Int32))), .val (Value.int cl), .val (Value.int v0), .val (Value.int v0), .val (Value.int v1), .val (Value.int v2), .val (Value.int cnt), .val (Value.int r0), .val (Value.int r1), .val (Value.int r2), .val (Value.int d0), .val (Value.int (v1 - r1)), .val (Value.int d1), .val (Value.int (v2 - r2)), .val (Value.int d2), .val (Value.int (x5 ||| (-2147483648 : Int32))), .unset, .unset, .unset] []))
          refine own_goto X0 hx hby at_271 (pc' := 278) (by decide) (by decide) ?_
          show own_G p e below s _ _ _ (s₁.setTop (mkF m 278 #[.val (Value.int x0), .val (Value.int x1), .val (Value.int x2), .val (Value.int x3), .val (Value.int x4), .val (Value.int x5), .val (Value.int ww), .val (Value.int (((x0.toUInt32 >>> ((7 : Int32) &&& 31).toUInt32).toInt32) &&& (3 : Int32))), .val (Value.int cl), .val (Value.int v0), .val (Value.int v0), .val (Value.int v1), .val (Value.int v2), .val (Value.int cnt), .val (Value.int r0), .val (Value.int r1), .val (Value.int r2), .val (Value.int d0), .val (Value.int (v1 - r1)), .val (Value.int d1), .val (Value.int (v2 - r2)), .val (Value.int d2), .val (Value.int (x5 ||| (-2147483648 : Int32))), .unset, .unset, .unset] []))
          exact J278 d0 d1 d2 _ hd0 hd1 hd2
      · show own_G p e below s _ _ _ (s₁.setTop (mkF m 240 #[.val (Value.int x0), .val (Value.int x1), .val (Value.int x2), .val (Value.int x3), .val (Value.int x4), .val (Value.int x5), .val (Value.int ww), .val (Value.int (((x0.toUInt32 >>> ((7 : Int32) &&& 31).toUInt32).toInt32) &&& (3 : Int32))), .val (Value.int cl), .val (Value.int v0), .val (Value.int v0), .val (Value.int v1), .val (Value.int v2), .val (Value.int cnt), .val (Value.int r0), .val (Value.int r1), .val (Value.int r2), .val (Value.int d0), .val (Value.int (v1 - r1)), .val (Value.int d1), .val (Value.int (v2 - r2)), .val (Value.int d2), .unset, .unset, .unset, .unset] []))
        refine own_iload X0 hx hby at_240 rfl ?_
        show own_G p e below s _ _ _ (s₁.setTop (mkF m 242 #[.val (Value.int x0), .val (Value.int x1), .val (Value.int x2), .val (Value.int x3), .val (Value.int x4), .val (Value.int x5), .val (Value.int ww), .val (Value.int (((x0.toUInt32 >>> ((7 : Int32) &&& 31).toUInt32).toInt32) &&& (3 : Int32))), .val (Value.int cl), .val (Value.int v0), .val (Value.int v0), .val (Value.int v1), .val (Value.int v2), .val (Value.int cnt), .val (Value.int r0), .val (Value.int r1), .val (Value.int r2), .val (Value.int d0), .val (Value.int (v1 - r1)), .val (Value.int d1), .val (Value.int (v2 - r2)), .val (Value.int d2), .unset, .unset, .unset, .unset] [(Value.int v2)]))
        refine own_iload X0 hx hby at_242 rfl ?_
        show own_G p e below s _ _ _ (s₁.setTop (mkF m 244 #[.val (Value.int x0), .val (Value.int x1), .val (Value.int x2), .val (Value.int x3), .val (Value.int x4), .val (Value.int x5), .val (Value.int ww), .val (Value.int (((x0.toUInt32 >>> ((7 : Int32) &&& 31).toUInt32).toInt32) &&& (3 : Int32))), .val (Value.int cl), .val (Value.int v0), .val (Value.int v0), .val (Value.int v1), .val (Value.int v2), .val (Value.int cnt), .val (Value.int r0), .val (Value.int r1), .val (Value.int r2), .val (Value.int d0), .val (Value.int (v1 - r1)), .val (Value.int d1), .val (Value.int (v2 - r2)), .val (Value.int d2), .unset, .unset, .unset, .unset] [(Value.int x5), (Value.int v2)]))
        refine own_ldcI X0 hx hby hZ hown (own_w1 hw) at_244 ?_
        show own_G p e below s _ _ _ (s₁.setTop (mkF m 246 #[.val (Value.int x0), .val (Value.int x1), .val (Value.int x2), .val (Value.int x3), .val (Value.int x4), .val (Value.int x5), .val (Value.int ww), .val (Value.int (((x0.toUInt32 >>> ((7 : Int32) &&& 31).toUInt32).toInt32) &&& (3 : Int32))), .val (Value.int cl), .val (Value.int v0), .val (Value.int v0), .val (Value.int v1), .val (Value.int v2), .val (Value.int cnt), .val (Value.int r0), .val (Value.int r1), .val (Value.int r2), .val (Value.int d0), .val (Value.int (v1 - r1)), .val (Value.int d1), .val (Value.int (v2 - r2)), .val (Value.int d2), .unset, .unset, .unset, .unset] [(Value.int (2147483647 : Int32)), (Value.int x5), (Value.int v2)]))
        refine own_iand X0 hx hby at_246 ?_
        show own_G p e below s _ _ _ (s₁.setTop (mkF m 247 #[.val (Value.int x0), .val (Value.int x1), .val (Value.int x2), .val (Value.int x3), .val (Value.int x4), .val (Value.int x5), .val (Value.int ww), .val (Value.int (((x0.toUInt32 >>> ((7 : Int32) &&& 31).toUInt32).toInt32) &&& (3 : Int32))), .val (Value.int cl), .val (Value.int v0), .val (Value.int v0), .val (Value.int v1), .val (Value.int v2), .val (Value.int cnt), .val (Value.int r0), .val (Value.int r1), .val (Value.int r2), .val (Value.int d0), .val (Value.int (v1 - r1)), .val (Value.int d1), .val (Value.int (v2 - r2)), .val (Value.int d2), .unset, .unset, .unset, .unset] [(Value.int (x5 &&& (2147483647 : Int32))), (Value.int v2)]))
        refine own_iload X0 hx hby at_247 rfl ?_
        show own_G p e below s _ _ _ (s₁.setTop (mkF m 249 #[.val (Value.int x0), .val (Value.int x1), .val (Value.int x2), .val (Value.int x3), .val (Value.int x4), .val (Value.int x5), .val (Value.int ww), .val (Value.int (((x0.toUInt32 >>> ((7 : Int32) &&& 31).toUInt32).toInt32) &&& (3 : Int32))), .val (Value.int cl), .val (Value.int v0), .val (Value.int v0), .val (Value.int v1), .val (Value.int v2), .val (Value.int cnt), .val (Value.int r0), .val (Value.int r1), .val (Value.int r2), .val (Value.int d0), .val (Value.int (v1 - r1)), .val (Value.int d1), .val (Value.int (v2 - r2)), .val (Value.int d2), .unset, .unset, .unset, .unset] [(Value.int ww), (Value.int (x5 &&& (2147483647 : Int32))), (Value.int v2)]))
        refine own_iconst X0 hx hby at_249 ?_
        show own_G p e below s _ _ _ (s₁.setTop (mkF m 250 #[.val (Value.int x0), .val (Value.int x1), .val (Value.int x2), .val (Value.int x3), .val (Value.int x4), .val (Value.int x5), .val (Value.int ww), .val (Value.int (((x0.toUInt32 >>> ((7 : Int32) &&& 31).toUInt32).toInt32) &&& (3 : Int32))), .val (Value.int cl), .val (Value.int v0), .val (Value.int v0), .val (Value.int v1), .val (Value.int v2), .val (Value.int cnt), .val (Value.int r0), .val (Value.int r1), .val (Value.int r2), .val (Value.int d0), .val (Value.int (v1 - r1)), .val (Value.int d1), .val (Value.int (v2 - r2)), .val (Value.int d2), .unset, .unset, .unset, .unset] [(Value.int (1 : Int32)), (Value.int ww), (Value.int (x5 &&& (2147483647 : Int32))), (Value.int v2)]))
        refine own_iadd X0 hx hby at_250 ?_
        show own_G p e below s _ _ _ (s₁.setTop (mkF m 251 #[.val (Value.int x0), .val (Value.int x1), .val (Value.int x2), .val (Value.int x3), .val (Value.int x4), .val (Value.int x5), .val (Value.int ww), .val (Value.int (((x0.toUInt32 >>> ((7 : Int32) &&& 31).toUInt32).toInt32) &&& (3 : Int32))), .val (Value.int cl), .val (Value.int v0), .val (Value.int v0), .val (Value.int v1), .val (Value.int v2), .val (Value.int cnt), .val (Value.int r0), .val (Value.int r1), .val (Value.int r2), .val (Value.int d0), .val (Value.int (v1 - r1)), .val (Value.int d1), .val (Value.int (v2 - r2)), .val (Value.int d2), .unset, .unset, .unset, .unset] [(Value.int (ww + (1 : Int32))), (Value.int (x5 &&& (2147483647 : Int32))), (Value.int v2)]))
        refine own_irem X0 hx hby at_251 (own_wp1 hww1 hww2).2 ?_
        show own_G p e below s _ _ _ (s₁.setTop (mkF m 252 #[.val (Value.int x0), .val (Value.int x1), .val (Value.int x2), .val (Value.int x3), .val (Value.int x4), .val (Value.int x5), .val (Value.int ww), .val (Value.int (((x0.toUInt32 >>> ((7 : Int32) &&& 31).toUInt32).toInt32) &&& (3 : Int32))), .val (Value.int cl), .val (Value.int v0), .val (Value.int v0), .val (Value.int v1), .val (Value.int v2), .val (Value.int cnt), .val (Value.int r0), .val (Value.int r1), .val (Value.int r2), .val (Value.int d0), .val (Value.int (v1 - r1)), .val (Value.int d1), .val (Value.int (v2 - r2)), .val (Value.int d2), .unset, .unset, .unset, .unset] [(Value.int ((x5 &&& (2147483647 : Int32)) % (ww + (1 : Int32)))), (Value.int v2)]))
        refine own_isub X0 hx hby at_252 ?_
        show own_G p e below s _ _ _ (s₁.setTop (mkF m 253 #[.val (Value.int x0), .val (Value.int x1), .val (Value.int x2), .val (Value.int x3), .val (Value.int x4), .val (Value.int x5), .val (Value.int ww), .val (Value.int (((x0.toUInt32 >>> ((7 : Int32) &&& 31).toUInt32).toInt32) &&& (3 : Int32))), .val (Value.int cl), .val (Value.int v0), .val (Value.int v0), .val (Value.int v1), .val (Value.int v2), .val (Value.int cnt), .val (Value.int r0), .val (Value.int r1), .val (Value.int r2), .val (Value.int d0), .val (Value.int (v1 - r1)), .val (Value.int d1), .val (Value.int (v2 - r2)), .val (Value.int d2), .unset, .unset, .unset, .unset] [(Value.int (v2 - ((x5 &&& (2147483647 : Int32)) % (ww + (1 : Int32)))))]))
        refine own_istore X0 hx hby at_253 (l' := #[.val (Value.int x0), .val (Value.int x1), .val (Value.int x2), .val (Value.int x3), .val (Value.int x4), .val (Value.int x5), .val (Value.int ww), .val (Value.int (((x0.toUInt32 >>> ((7 : Int32) &&& 31).toUInt32).toInt32) &&& (3 : Int32))), .val (Value.int cl), .val (Value.int v0), .val (Value.int v0), .val (Value.int v1), .val (Value.int v2), .val (Value.int cnt), .val (Value.int r0), .val (Value.int r1), .val (Value.int r2), .val (Value.int d0), .val (Value.int (v1 - r1)), .val (Value.int d1), .val (Value.int (v2 - r2)), .val (Value.int d2), .val (Value.int (v2 - ((x5 &&& (2147483647 : Int32)) % (ww + (1 : Int32))))), .unset, .unset, .unset]) rfl ?_
        show own_G p e below s _ _ _ (s₁.setTop (mkF m 255 #[.val (Value.int x0), .val (Value.int x1), .val (Value.int x2), .val (Value.int x3), .val (Value.int x4), .val (Value.int x5), .val (Value.int ww), .val (Value.int (((x0.toUInt32 >>> ((7 : Int32) &&& 31).toUInt32).toInt32) &&& (3 : Int32))), .val (Value.int cl), .val (Value.int v0), .val (Value.int v0), .val (Value.int v1), .val (Value.int v2), .val (Value.int cnt), .val (Value.int r0), .val (Value.int r1), .val (Value.int r2), .val (Value.int d0), .val (Value.int (v1 - r1)), .val (Value.int d1), .val (Value.int (v2 - r2)), .val (Value.int d2), .val (Value.int (v2 - ((x5 &&& (2147483647 : Int32)) % (ww + (1 : Int32))))), .unset, .unset, .unset] []))
        refine own_goto X0 hx hby at_255 (pc' := 278) (by decide) (by decide) ?_
        show own_G p e below s _ _ _ (s₁.setTop (mkF m 278 #[.val (Value.int x0), .val (Value.int x1), .val (Value.int x2), .val (Value.int x3), .val (Value.int x4), .val (Value.int x5), .val (Value.int ww), .val (Value.int (((x0.toUInt32 >>> ((7 : Int32) &&& 31).toUInt32).toInt32) &&& (3 : Int32))), .val (Value.int cl), .val (Value.int v0), .val (Value.int v0), .val (Value.int v1), .val (Value.int v2), .val (Value.int cnt), .val (Value.int r0), .val (Value.int r1), .val (Value.int r2), .val (Value.int d0), .val (Value.int (v1 - r1)), .val (Value.int d1), .val (Value.int (v2 - r2)), .val (Value.int d2), .val (Value.int (v2 - ((x5 &&& (2147483647 : Int32)) % (ww + (1 : Int32))))), .unset, .unset, .unset] []))
        exact J278 d0 d1 d2 _ hd0 hd1 hd2
    have J176 : ∀ (d0 d1 : Int32) (hd0 : d0 = own_d0 r0) (hd1 : d1 = own_d1 cl v0 r1 (v1 - r1) d0), own_G p e below s (own_rm0_Q Z x0 x1 x2 x3 x4 x5 h0 n0) 24 1280 (s₁.setTop (mkF m 176 #[.val (Value.int x0), .val (Value.int x1), .val (Value.int x2), .val (Value.int x3), .val (Value.int x4), .val (Value.int x5), .val (Value.int ww), .val (Value.int (((x0.toUInt32 >>> ((7 : Int32) &&& 31).toUInt32).toInt32) &&& (3 : Int32))), .val (Value.int cl), .val (Value.int v0), .val (Value.int v0), .val (Value.int v1), .val (Value.int v2), .val (Value.int cnt), .val (Value.int r0), .val (Value.int r1), .val (Value.int r2), .val (Value.int d0), .val (Value.int (v1 - r1)), .val (Value.int d1), .unset, .unset, .unset, .unset, .unset, .unset] [])) := by
      intro d0 d1 hd0 hd1
      show own_G p e below s _ _ _ (s₁.setTop (mkF m 176 #[.val (Value.int x0), .val (Value.int x1), .val (Value.int x2), .val (Value.int x3), .val (Value.int x4), .val (Value.int x5), .val (Value.int ww), .val (Value.int (((x0.toUInt32 >>> ((7 : Int32) &&& 31).toUInt32).toInt32) &&& (3 : Int32))), .val (Value.int cl), .val (Value.int v0), .val (Value.int v0), .val (Value.int v1), .val (Value.int v2), .val (Value.int cnt), .val (Value.int r0), .val (Value.int r1), .val (Value.int r2), .val (Value.int d0), .val (Value.int (v1 - r1)), .val (Value.int d1), .unset, .unset, .unset, .unset, .unset, .unset] []))
      refine own_iload X0 hx hby at_176 rfl ?_
      show own_G p e below s _ _ _ (s₁.setTop (mkF m 178 #[.val (Value.int x0), .val (Value.int x1), .val (Value.int x2), .val (Value.int x3), .val (Value.int x4), .val (Value.int x5), .val (Value.int ww), .val (Value.int (((x0.toUInt32 >>> ((7 : Int32) &&& 31).toUInt32).toInt32) &&& (3 : Int32))), .val (Value.int cl), .val (Value.int v0), .val (Value.int v0), .val (Value.int v1), .val (Value.int v2), .val (Value.int cnt), .val (Value.int r0), .val (Value.int r1), .val (Value.int r2), .val (Value.int d0), .val (Value.int (v1 - r1)), .val (Value.int d1), .unset, .unset, .unset, .unset, .unset, .unset] [(Value.int v2)]))
      refine own_iload X0 hx hby at_178 rfl ?_
      show own_G p e below s _ _ _ (s₁.setTop (mkF m 180 #[.val (Value.int x0), .val (Value.int x1), .val (Value.int x2), .val (Value.int x3), .val (Value.int x4), .val (Value.int x5), .val (Value.int ww), .val (Value.int (((x0.toUInt32 >>> ((7 : Int32) &&& 31).toUInt32).toInt32) &&& (3 : Int32))), .val (Value.int cl), .val (Value.int v0), .val (Value.int v0), .val (Value.int v1), .val (Value.int v2), .val (Value.int cnt), .val (Value.int r0), .val (Value.int r1), .val (Value.int r2), .val (Value.int d0), .val (Value.int (v1 - r1)), .val (Value.int d1), .unset, .unset, .unset, .unset, .unset, .unset] [(Value.int r2), (Value.int v2)]))
      refine own_isub X0 hx hby at_180 ?_
      show own_G p e below s _ _ _ (s₁.setTop (mkF m 181 #[.val (Value.int x0), .val (Value.int x1), .val (Value.int x2), .val (Value.int x3), .val (Value.int x4), .val (Value.int x5), .val (Value.int ww), .val (Value.int (((x0.toUInt32 >>> ((7 : Int32) &&& 31).toUInt32).toInt32) &&& (3 : Int32))), .val (Value.int cl), .val (Value.int v0), .val (Value.int v0), .val (Value.int v1), .val (Value.int v2), .val (Value.int cnt), .val (Value.int r0), .val (Value.int r1), .val (Value.int r2), .val (Value.int d0), .val (Value.int (v1 - r1)), .val (Value.int d1), .unset, .unset, .unset, .unset, .unset, .unset] [(Value.int (v2 - r2))]))
      refine own_istore X0 hx hby at_181 (l' := #[.val (Value.int x0), .val (Value.int x1), .val (Value.int x2), .val (Value.int x3), .val (Value.int x4), .val (Value.int x5), .val (Value.int ww), .val (Value.int (((x0.toUInt32 >>> ((7 : Int32) &&& 31).toUInt32).toInt32) &&& (3 : Int32))), .val (Value.int cl), .val (Value.int v0), .val (Value.int v0), .val (Value.int v1), .val (Value.int v2), .val (Value.int cnt), .val (Value.int r0), .val (Value.int r1), .val (Value.int r2), .val (Value.int d0), .val (Value.int (v1 - r1)), .val (Value.int d1), .val (Value.int (v2 - r2)), .unset, .unset, .unset, .unset, .unset]) rfl ?_
      show own_G p e below s _ _ _ (s₁.setTop (mkF m 183 #[.val (Value.int x0), .val (Value.int x1), .val (Value.int x2), .val (Value.int x3), .val (Value.int x4), .val (Value.int x5), .val (Value.int ww), .val (Value.int (((x0.toUInt32 >>> ((7 : Int32) &&& 31).toUInt32).toInt32) &&& (3 : Int32))), .val (Value.int cl), .val (Value.int v0), .val (Value.int v0), .val (Value.int v1), .val (Value.int v2), .val (Value.int cnt), .val (Value.int r0), .val (Value.int r1), .val (Value.int r2), .val (Value.int d0), .val (Value.int (v1 - r1)), .val (Value.int d1), .val (Value.int (v2 - r2)), .unset, .unset, .unset, .unset, .unset] []))
      refine own_iload X0 hx hby at_183 rfl ?_
      show own_G p e below s _ _ _ (s₁.setTop (mkF m 185 #[.val (Value.int x0), .val (Value.int x1), .val (Value.int x2), .val (Value.int x3), .val (Value.int x4), .val (Value.int x5), .val (Value.int ww), .val (Value.int (((x0.toUInt32 >>> ((7 : Int32) &&& 31).toUInt32).toInt32) &&& (3 : Int32))), .val (Value.int cl), .val (Value.int v0), .val (Value.int v0), .val (Value.int v1), .val (Value.int v2), .val (Value.int cnt), .val (Value.int r0), .val (Value.int r1), .val (Value.int r2), .val (Value.int d0), .val (Value.int (v1 - r1)), .val (Value.int d1), .val (Value.int (v2 - r2)), .unset, .unset, .unset, .unset, .unset] [(Value.int r2)]))
      refine own_if_ne X0 hx hby at_185 (pc' := 194) (by decide) (by decide) (fun hb65 => ?_) (fun hb65 => ?_)
      · show own_G p e below s _ _ _ (s₁.setTop (mkF m 194 #[.val (Value.int x0), .val (Value.int x1), .val (Value.int x2), .val (Value.int x3), .val (Value.int x4), .val (Value.int x5), .val (Value.int ww), .val (Value.int (((x0.toUInt32 >>> ((7 : Int32) &&& 31).toUInt32).toInt32) &&& (3 : Int32))), .val (Value.int cl), .val (Value.int v0), .val (Value.int v0), .val (Value.int v1), .val (Value.int v2), .val (Value.int cnt), .val (Value.int r0), .val (Value.int r1), .val (Value.int r2), .val (Value.int d0), .val (Value.int (v1 - r1)), .val (Value.int d1), .val (Value.int (v2 - r2)), .unset, .unset, .unset, .unset, .unset] []))
        refine own_iload X0 hx hby at_194 rfl ?_
        show own_G p e below s _ _ _ (s₁.setTop (mkF m 196 #[.val (Value.int x0), .val (Value.int x1), .val (Value.int x2), .val (Value.int x3), .val (Value.int x4), .val (Value.int x5), .val (Value.int ww), .val (Value.int (((x0.toUInt32 >>> ((7 : Int32) &&& 31).toUInt32).toInt32) &&& (3 : Int32))), .val (Value.int cl), .val (Value.int v0), .val (Value.int v0), .val (Value.int v1), .val (Value.int v2), .val (Value.int cnt), .val (Value.int r0), .val (Value.int r1), .val (Value.int r2), .val (Value.int d0), .val (Value.int (v1 - r1)), .val (Value.int d1), .val (Value.int (v2 - r2)), .unset, .unset, .unset, .unset, .unset] [(Value.int (v2 - r2))]))
        refine own_iload X0 hx hby at_196 rfl ?_
        show own_G p e below s _ _ _ (s₁.setTop (mkF m 198 #[.val (Value.int x0), .val (Value.int x1), .val (Value.int x2), .val (Value.int x3), .val (Value.int x4), .val (Value.int x5), .val (Value.int ww), .val (Value.int (((x0.toUInt32 >>> ((7 : Int32) &&& 31).toUInt32).toInt32) &&& (3 : Int32))), .val (Value.int cl), .val (Value.int v0), .val (Value.int v0), .val (Value.int v1), .val (Value.int v2), .val (Value.int cnt), .val (Value.int r0), .val (Value.int r1), .val (Value.int r2), .val (Value.int d0), .val (Value.int (v1 - r1)), .val (Value.int d1), .val (Value.int (v2 - r2)), .unset, .unset, .unset, .unset, .unset] [(Value.int v1), (Value.int (v2 - r2))]))
        refine own_icmp_ne X0 hx hby at_198 (pc' := 210) (by decide) (by decide) (fun hb66 => ?_) (fun hb66 => ?_)
        · show own_G p e below s _ _ _ (s₁.setTop (mkF m 210 #[.val (Value.int x0), .val (Value.int x1), .val (Value.int x2), .val (Value.int x3), .val (Value.int x4), .val (Value.int x5), .val (Value.int ww), .val (Value.int (((x0.toUInt32 >>> ((7 : Int32) &&& 31).toUInt32).toInt32) &&& (3 : Int32))), .val (Value.int cl), .val (Value.int v0), .val (Value.int v0), .val (Value.int v1), .val (Value.int v2), .val (Value.int cnt), .val (Value.int r0), .val (Value.int r1), .val (Value.int r2), .val (Value.int d0), .val (Value.int (v1 - r1)), .val (Value.int d1), .val (Value.int (v2 - r2)), .unset, .unset, .unset, .unset, .unset] []))
          refine own_iload X0 hx hby at_210 rfl ?_
          show own_G p e below s _ _ _ (s₁.setTop (mkF m 212 #[.val (Value.int x0), .val (Value.int x1), .val (Value.int x2), .val (Value.int x3), .val (Value.int x4), .val (Value.int x5), .val (Value.int ww), .val (Value.int (((x0.toUInt32 >>> ((7 : Int32) &&& 31).toUInt32).toInt32) &&& (3 : Int32))), .val (Value.int cl), .val (Value.int v0), .val (Value.int v0), .val (Value.int v1), .val (Value.int v2), .val (Value.int cnt), .val (Value.int r0), .val (Value.int r1), .val (Value.int r2), .val (Value.int d0), .val (Value.int (v1 - r1)), .val (Value.int d1), .val (Value.int (v2 - r2)), .unset, .unset, .unset, .unset, .unset] [(Value.int (v2 - r2))]))
          refine own_iload X0 hx hby at_212 rfl ?_
          show own_G p e below s _ _ _ (s₁.setTop (mkF m 214 #[.val (Value.int x0), .val (Value.int x1), .val (Value.int x2), .val (Value.int x3), .val (Value.int x4), .val (Value.int x5), .val (Value.int ww), .val (Value.int (((x0.toUInt32 >>> ((7 : Int32) &&& 31).toUInt32).toInt32) &&& (3 : Int32))), .val (Value.int cl), .val (Value.int v0), .val (Value.int v0), .val (Value.int v1), .val (Value.int v2), .val (Value.int cnt), .val (Value.int r0), .val (Value.int r1), .val (Value.int r2), .val (Value.int d0), .val (Value.int (v1 - r1)), .val (Value.int d1), .val (Value.int (v2 - r2)), .unset, .unset, .unset, .unset, .unset] [(Value.int v0), (Value.int (v2 - r2))]))
          refine own_icmp_ne X0 hx hby at_214 (pc' := 231) (by decide) (by decide) (fun hb67 => ?_) (fun hb67 => ?_)
          · show own_G p e below s _ _ _ (s₁.setTop (mkF m 231 #[.val (Value.int x0), .val (Value.int x1), .val (Value.int x2), .val (Value.int x3), .val (Value.int x4), .val (Value.int x5), .val (Value.int ww), .val (Value.int (((x0.toUInt32 >>> ((7 : Int32) &&& 31).toUInt32).toInt32) &&& (3 : Int32))), .val (Value.int cl), .val (Value.int v0), .val (Value.int v0), .val (Value.int v1), .val (Value.int v2), .val (Value.int cnt), .val (Value.int r0), .val (Value.int r1), .val (Value.int r2), .val (Value.int d0), .val (Value.int (v1 - r1)), .val (Value.int d1), .val (Value.int (v2 - r2)), .unset, .unset, .unset, .unset, .unset] []))
            refine own_iconst X0 hx hby at_231 ?_
            show own_G p e below s _ _ _ (s₁.setTop (mkF m 232 #[.val (Value.int x0), .val (Value.int x1), .val (Value.int x2), .val (Value.int x3), .val (Value.int x4), .val (Value.int x5), .val (Value.int ww), .val (Value.int (((x0.toUInt32 >>> ((7 : Int32) &&& 31).toUInt32).toInt32) &&& (3 : Int32))), .val (Value.int cl), .val (Value.int v0), .val (Value.int v0), .val (Value.int v1), .val (Value.int v2), .val (Value.int cnt), .val (Value.int r0), .val (Value.int r1), .val (Value.int r2), .val (Value.int d0), .val (Value.int (v1 - r1)), .val (Value.int d1), .val (Value.int (v2 - r2)), .unset, .unset, .unset, .unset, .unset] [(Value.int (1 : Int32))]))
            refine own_istore X0 hx hby at_232 (l' := #[.val (Value.int x0), .val (Value.int x1), .val (Value.int x2), .val (Value.int x3), .val (Value.int x4), .val (Value.int x5), .val (Value.int ww), .val (Value.int (((x0.toUInt32 >>> ((7 : Int32) &&& 31).toUInt32).toInt32) &&& (3 : Int32))), .val (Value.int cl), .val (Value.int v0), .val (Value.int v0), .val (Value.int v1), .val (Value.int v2), .val (Value.int cnt), .val (Value.int r0), .val (Value.int r1), .val (Value.int r2), .val (Value.int d0), .val (Value.int (v1 - r1)), .val (Value.int d1), .val (Value.int (v2 - r2)), .val (Value.int (1 : Int32)), .unset, .unset, .unset, .unset]) rfl ?_
            show own_G p e below s _ _ _ (s₁.setTop (mkF m 234 #[.val (Value.int x0), .val (Value.int x1), .val (Value.int x2), .val (Value.int x3), .val (Value.int x4), .val (Value.int x5), .val (Value.int ww), .val (Value.int (((x0.toUInt32 >>> ((7 : Int32) &&& 31).toUInt32).toInt32) &&& (3 : Int32))), .val (Value.int cl), .val (Value.int v0), .val (Value.int v0), .val (Value.int v1), .val (Value.int v2), .val (Value.int cnt), .val (Value.int r0), .val (Value.int r1), .val (Value.int r2), .val (Value.int d0), .val (Value.int (v1 - r1)), .val (Value.int d1), .val (Value.int (v2 - r2)), .val (Value.int (1 : Int32)), .unset, .unset, .unset, .unset] []))
            exact J234 d0 d1 _ hd0 hd1 (by simp only [own_d2, if_neg hb65, if_neg hb66, if_neg hb67])
          · show own_G p e below s _ _ _ (s₁.setTop (mkF m 217 #[.val (Value.int x0), .val (Value.int x1), .val (Value.int x2), .val (Value.int x3), .val (Value.int x4), .val (Value.int x5), .val (Value.int ww), .val (Value.int (((x0.toUInt32 >>> ((7 : Int32) &&& 31).toUInt32).toInt32) &&& (3 : Int32))), .val (Value.int cl), .val (Value.int v0), .val (Value.int v0), .val (Value.int v1), .val (Value.int v2), .val (Value.int cnt), .val (Value.int r0), .val (Value.int r1), .val (Value.int r2), .val (Value.int d0), .val (Value.int (v1 - r1)), .val (Value.int d1), .val (Value.int (v2 - r2)), .unset, .unset, .unset, .unset, .unset] []))
            refine own_iload X0 hx hby at_217 rfl ?_
            show own_G p e below s _ _ _ (s₁.setTop (mkF m 219 #[.val (Value.int x0), .val (Value.int x1), .val (Value.int x2), .val (Value.int x3), .val (Value.int x4), .val (Value.int x5), .val (Value.int ww), .val (Value.int (((x0.toUInt32 >>> ((7 : Int32) &&& 31).toUInt32).toInt32) &&& (3 : Int32))), .val (Value.int cl), .val (Value.int v0), .val (Value.int v0), .val (Value.int v1), .val (Value.int v2), .val (Value.int cnt), .val (Value.int r0), .val (Value.int r1), .val (Value.int r2), .val (Value.int d0), .val (Value.int (v1 - r1)), .val (Value.int d1), .val (Value.int (v2 - r2)), .unset, .unset, .unset, .unset, .unset] [(Value.int cl)]))
            refine own_if_ne X0 hx hby at_219 (pc' := 231) (by decide) (by decide) (fun hb68 => ?_) (fun hb68 => ?_)
            · show own_G p e below s _ _ _ (s₁.setTop (mkF m 231 #[.val (Value.int x0), .val (Value.int x1), .val (Value.int x2), .val (Value.int x3), .val (Value.int x4), .val (Value.int x5), .val (Value.int ww), .val (Value.int (((x0.toUInt32 >>> ((7 : Int32) &&& 31).toUInt32).toInt32) &&& (3 : Int32))), .val (Value.int cl), .val (Value.int v0), .val (Value.int v0), .val (Value.int v1), .val (Value.int v2), .val (Value.int cnt), .val (Value.int r0), .val (Value.int r1), .val (Value.int r2), .val (Value.int d0), .val (Value.int (v1 - r1)), .val (Value.int d1), .val (Value.int (v2 - r2)), .unset, .unset, .unset, .unset, .unset] []))
              refine own_iconst X0 hx hby at_231 ?_
              show own_G p e below s _ _ _ (s₁.setTop (mkF m 232 #[.val (Value.int x0), .val (Value.int x1), .val (Value.int x2), .val (Value.int x3), .val (Value.int x4), .val (Value.int x5), .val (Value.int ww), .val (Value.int (((x0.toUInt32 >>> ((7 : Int32) &&& 31).toUInt32).toInt32) &&& (3 : Int32))), .val (Value.int cl), .val (Value.int v0), .val (Value.int v0), .val (Value.int v1), .val (Value.int v2), .val (Value.int cnt), .val (Value.int r0), .val (Value.int r1), .val (Value.int r2), .val (Value.int d0), .val (Value.int (v1 - r1)), .val (Value.int d1), .val (Value.int (v2 - r2)), .unset, .unset, .unset, .unset, .unset] [(Value.int (1 : Int32))]))
              refine own_istore X0 hx hby at_232 (l' := #[.val (Value.int x0), .val (Value.int x1), .val (Value.int x2), .val (Value.int x3), .val (Value.int x4), .val (Value.int x5), .val (Value.int ww), .val (Value.int (((x0.toUInt32 >>> ((7 : Int32) &&& 31).toUInt32).toInt32) &&& (3 : Int32))), .val (Value.int cl), .val (Value.int v0), .val (Value.int v0), .val (Value.int v1), .val (Value.int v2), .val (Value.int cnt), .val (Value.int r0), .val (Value.int r1), .val (Value.int r2), .val (Value.int d0), .val (Value.int (v1 - r1)), .val (Value.int d1), .val (Value.int (v2 - r2)), .val (Value.int (1 : Int32)), .unset, .unset, .unset, .unset]) rfl ?_
              show own_G p e below s _ _ _ (s₁.setTop (mkF m 234 #[.val (Value.int x0), .val (Value.int x1), .val (Value.int x2), .val (Value.int x3), .val (Value.int x4), .val (Value.int x5), .val (Value.int ww), .val (Value.int (((x0.toUInt32 >>> ((7 : Int32) &&& 31).toUInt32).toInt32) &&& (3 : Int32))), .val (Value.int cl), .val (Value.int v0), .val (Value.int v0), .val (Value.int v1), .val (Value.int v2), .val (Value.int cnt), .val (Value.int r0), .val (Value.int r1), .val (Value.int r2), .val (Value.int d0), .val (Value.int (v1 - r1)), .val (Value.int d1), .val (Value.int (v2 - r2)), .val (Value.int (1 : Int32)), .unset, .unset, .unset, .unset] []))
              exact J234 d0 d1 _ hd0 hd1 (by simp only [own_d2, if_neg hb65, if_neg hb66, if_pos hb67, if_neg hb68])
            · show own_G p e below s _ _ _ (s₁.setTop (mkF m 222 #[.val (Value.int x0), .val (Value.int x1), .val (Value.int x2), .val (Value.int x3), .val (Value.int x4), .val (Value.int x5), .val (Value.int ww), .val (Value.int (((x0.toUInt32 >>> ((7 : Int32) &&& 31).toUInt32).toInt32) &&& (3 : Int32))), .val (Value.int cl), .val (Value.int v0), .val (Value.int v0), .val (Value.int v1), .val (Value.int v2), .val (Value.int cnt), .val (Value.int r0), .val (Value.int r1), .val (Value.int r2), .val (Value.int d0), .val (Value.int (v1 - r1)), .val (Value.int d1), .val (Value.int (v2 - r2)), .unset, .unset, .unset, .unset, .unset] []))
              refine own_iload X0 hx hby at_222 rfl ?_
              show own_G p e below s _ _ _ (s₁.setTop (mkF m 224 #[.val (Value.int x0), .val (Value.int x1), .val (Value.int x2), .val (Value.int x3), .val (Value.int x4), .val (Value.int x5), .val (Value.int ww), .val (Value.int (((x0.toUInt32 >>> ((7 : Int32) &&& 31).toUInt32).toInt32) &&& (3 : Int32))), .val (Value.int cl), .val (Value.int v0), .val (Value.int v0), .val (Value.int v1), .val (Value.int v2), .val (Value.int cnt), .val (Value.int r0), .val (Value.int r1), .val (Value.int r2), .val (Value.int d0), .val (Value.int (v1 - r1)), .val (Value.int d1), .val (Value.int (v2 - r2)), .unset, .unset, .unset, .unset, .unset] [(Value.int d0)]))
              refine own_iconst X0 hx hby at_224 ?_
              show own_G p e below s _ _ _ (s₁.setTop (mkF m 225 #[.val (Value.int x0), .val (Value.int x1), .val (Value.int x2), .val (Value.int x3), .val (Value.int x4), .val (Value.int x5), .val (Value.int ww), .val (Value.int (((x0.toUInt32 >>> ((7 : Int32) &&& 31).toUInt32).toInt32) &&& (3 : Int32))), .val (Value.int cl), .val (Value.int v0), .val (Value.int v0), .val (Value.int v1), .val (Value.int v2), .val (Value.int cnt), .val (Value.int r0), .val (Value.int r1), .val (Value.int r2), .val (Value.int d0), .val (Value.int (v1 - r1)), .val (Value.int d1), .val (Value.int (v2 - r2)), .unset, .unset, .unset, .unset, .unset] [(Value.int (1 : Int32)), (Value.int d0)]))
              refine own_iadd X0 hx hby at_225 ?_
              show own_G p e below s _ _ _ (s₁.setTop (mkF m 226 #[.val (Value.int x0), .val (Value.int x1), .val (Value.int x2), .val (Value.int x3), .val (Value.int x4), .val (Value.int x5), .val (Value.int ww), .val (Value.int (((x0.toUInt32 >>> ((7 : Int32) &&& 31).toUInt32).toInt32) &&& (3 : Int32))), .val (Value.int cl), .val (Value.int v0), .val (Value.int v0), .val (Value.int v1), .val (Value.int v2), .val (Value.int cnt), .val (Value.int r0), .val (Value.int r1), .val (Value.int r2), .val (Value.int d0), .val (Value.int (v1 - r1)), .val (Value.int d1), .val (Value.int (v2 - r2)), .unset, .unset, .unset, .unset, .unset] [(Value.int (d0 + (1 : Int32)))]))
              refine own_istore X0 hx hby at_226 (l' := #[.val (Value.int x0), .val (Value.int x1), .val (Value.int x2), .val (Value.int x3), .val (Value.int x4), .val (Value.int x5), .val (Value.int ww), .val (Value.int (((x0.toUInt32 >>> ((7 : Int32) &&& 31).toUInt32).toInt32) &&& (3 : Int32))), .val (Value.int cl), .val (Value.int v0), .val (Value.int v0), .val (Value.int v1), .val (Value.int v2), .val (Value.int cnt), .val (Value.int r0), .val (Value.int r1), .val (Value.int r2), .val (Value.int d0), .val (Value.int (v1 - r1)), .val (Value.int d1), .val (Value.int (v2 - r2)), .val (Value.int (d0 + (1 : Int32))), .unset, .unset, .unset, .unset]) rfl ?_
              show own_G p e below s _ _ _ (s₁.setTop (mkF m 228 #[.val (Value.int x0), .val (Value.int x1), .val (Value.int x2), .val (Value.int x3), .val (Value.int x4), .val (Value.int x5), .val (Value.int ww), .val (Value.int (((x0.toUInt32 >>> ((7 : Int32) &&& 31).toUInt32).toInt32) &&& (3 : Int32))), .val (Value.int cl), .val (Value.int v0), .val (Value.int v0), .val (Value.int v1), .val (Value.int v2), .val (Value.int cnt), .val (Value.int r0), .val (Value.int r1), .val (Value.int r2), .val (Value.int d0), .val (Value.int (v1 - r1)), .val (Value.int d1), .val (Value.int (v2 - r2)), .val (Value.int (d0 + (1 : Int32))), .unset, .unset, .unset, .unset] []))
              refine own_goto X0 hx hby at_228 (pc' := 234) (by decide) (by decide) ?_
              show own_G p e below s _ _ _ (s₁.setTop (mkF m 234 #[.val (Value.int x0), .val (Value.int x1), .val (Value.int x2), .val (Value.int x3), .val (Value.int x4), .val (Value.int x5), .val (Value.int ww), .val (Value.int (((x0.toUInt32 >>> ((7 : Int32) &&& 31).toUInt32).toInt32) &&& (3 : Int32))), .val (Value.int cl), .val (Value.int v0), .val (Value.int v0), .val (Value.int v1), .val (Value.int v2), .val (Value.int cnt), .val (Value.int r0), .val (Value.int r1), .val (Value.int r2), .val (Value.int d0), .val (Value.int (v1 - r1)), .val (Value.int d1), .val (Value.int (v2 - r2)), .val (Value.int (d0 + (1 : Int32))), .unset, .unset, .unset, .unset] []))
              exact J234 d0 d1 _ hd0 hd1 (by simp only [own_d2, if_neg hb65, if_neg hb66, if_pos hb67, if_pos hb68])
        · show own_G p e below s _ _ _ (s₁.setTop (mkF m 201 #[.val (Value.int x0), .val (Value.int x1), .val (Value.int x2), .val (Value.int x3), .val (Value.int x4), .val (Value.int x5), .val (Value.int ww), .val (Value.int (((x0.toUInt32 >>> ((7 : Int32) &&& 31).toUInt32).toInt32) &&& (3 : Int32))), .val (Value.int cl), .val (Value.int v0), .val (Value.int v0), .val (Value.int v1), .val (Value.int v2), .val (Value.int cnt), .val (Value.int r0), .val (Value.int r1), .val (Value.int r2), .val (Value.int d0), .val (Value.int (v1 - r1)), .val (Value.int d1), .val (Value.int (v2 - r2)), .unset, .unset, .unset, .unset, .unset] []))
          refine own_iload X0 hx hby at_201 rfl ?_
          show own_G p e below s _ _ _ (s₁.setTop (mkF m 203 #[.val (Value.int x0), .val (Value.int x1), .val (Value.int x2), .val (Value.int x3), .val (Value.int x4), .val (Value.int x5), .val (Value.int ww), .val (Value.int (((x0.toUInt32 >>> ((7 : Int32) &&& 31).toUInt32).toInt32) &&& (3 : Int32))), .val (Value.int cl), .val (Value.int v0), .val (Value.int v0), .val (Value.int v1), .val (Value.int v2), .val (Value.int cnt), .val (Value.int r0), .val (Value.int r1), .val (Value.int r2), .val (Value.int d0), .val (Value.int (v1 - r1)), .val (Value.int d1), .val (Value.int (v2 - r2)), .unset, .unset, .unset, .unset, .unset] [(Value.int d1)]))
          refine own_iconst X0 hx hby at_203 ?_
          show own_G p e below s _ _ _ (s₁.setTop (mkF m 204 #[.val (Value.int x0), .val (Value.int x1), .val (Value.int x2), .val (Value.int x3), .val (Value.int x4), .val (Value.int x5), .val (Value.int ww), .val (Value.int (((x0.toUInt32 >>> ((7 : Int32) &&& 31).toUInt32).toInt32) &&& (3 : Int32))), .val (Value.int cl), .val (Value.int v0), .val (Value.int v0), .val (Value.int v1), .val (Value.int v2), .val (Value.int cnt), .val (Value.int r0), .val (Value.int r1), .val (Value.int r2), .val (Value.int d0), .val (Value.int (v1 - r1)), .val (Value.int d1), .val (Value.int (v2 - r2)), .unset, .unset, .unset, .unset, .unset] [(Value.int (1 : Int32)), (Value.int d1)]))
          refine own_iadd X0 hx hby at_204 ?_
          show own_G p e below s _ _ _ (s₁.setTop (mkF m 205 #[.val (Value.int x0), .val (Value.int x1), .val (Value.int x2), .val (Value.int x3), .val (Value.int x4), .val (Value.int x5), .val (Value.int ww), .val (Value.int (((x0.toUInt32 >>> ((7 : Int32) &&& 31).toUInt32).toInt32) &&& (3 : Int32))), .val (Value.int cl), .val (Value.int v0), .val (Value.int v0), .val (Value.int v1), .val (Value.int v2), .val (Value.int cnt), .val (Value.int r0), .val (Value.int r1), .val (Value.int r2), .val (Value.int d0), .val (Value.int (v1 - r1)), .val (Value.int d1), .val (Value.int (v2 - r2)), .unset, .unset, .unset, .unset, .unset] [(Value.int (d1 + (1 : Int32)))]))
          refine own_istore X0 hx hby at_205 (l' := #[.val (Value.int x0), .val (Value.int x1), .val (Value.int x2), .val (Value.int x3), .val (Value.int x4), .val (Value.int x5), .val (Value.int ww), .val (Value.int (((x0.toUInt32 >>> ((7 : Int32) &&& 31).toUInt32).toInt32) &&& (3 : Int32))), .val (Value.int cl), .val (Value.int v0), .val (Value.int v0), .val (Value.int v1), .val (Value.int v2), .val (Value.int cnt), .val (Value.int r0), .val (Value.int r1), .val (Value.int r2), .val (Value.int d0), .val (Value.int (v1 - r1)), .val (Value.int d1), .val (Value.int (v2 - r2)), .val (Value.int (d1 + (1 : Int32))), .unset, .unset, .unset, .unset]) rfl ?_
          show own_G p e below s _ _ _ (s₁.setTop (mkF m 207 #[.val (Value.int x0), .val (Value.int x1), .val (Value.int x2), .val (Value.int x3), .val (Value.int x4), .val (Value.int x5), .val (Value.int ww), .val (Value.int (((x0.toUInt32 >>> ((7 : Int32) &&& 31).toUInt32).toInt32) &&& (3 : Int32))), .val (Value.int cl), .val (Value.int v0), .val (Value.int v0), .val (Value.int v1), .val (Value.int v2), .val (Value.int cnt), .val (Value.int r0), .val (Value.int r1), .val (Value.int r2), .val (Value.int d0), .val (Value.int (v1 - r1)), .val (Value.int d1), .val (Value.int (v2 - r2)), .val (Value.int (d1 + (1 : Int32))), .unset, .unset, .unset, .unset] []))
          refine own_goto X0 hx hby at_207 (pc' := 234) (by decide) (by decide) ?_
          show own_G p e below s _ _ _ (s₁.setTop (mkF m 234 #[.val (Value.int x0), .val (Value.int x1), .val (Value.int x2), .val (Value.int x3), .val (Value.int x4), .val (Value.int x5), .val (Value.int ww), .val (Value.int (((x0.toUInt32 >>> ((7 : Int32) &&& 31).toUInt32).toInt32) &&& (3 : Int32))), .val (Value.int cl), .val (Value.int v0), .val (Value.int v0), .val (Value.int v1), .val (Value.int v2), .val (Value.int cnt), .val (Value.int r0), .val (Value.int r1), .val (Value.int r2), .val (Value.int d0), .val (Value.int (v1 - r1)), .val (Value.int d1), .val (Value.int (v2 - r2)), .val (Value.int (d1 + (1 : Int32))), .unset, .unset, .unset, .unset] []))
          exact J234 d0 d1 _ hd0 hd1 (by simp only [own_d2, if_neg hb65, if_pos hb66])
      · show own_G p e below s _ _ _ (s₁.setTop (mkF m 188 #[.val (Value.int x0), .val (Value.int x1), .val (Value.int x2), .val (Value.int x3), .val (Value.int x4), .val (Value.int x5), .val (Value.int ww), .val (Value.int (((x0.toUInt32 >>> ((7 : Int32) &&& 31).toUInt32).toInt32) &&& (3 : Int32))), .val (Value.int cl), .val (Value.int v0), .val (Value.int v0), .val (Value.int v1), .val (Value.int v2), .val (Value.int cnt), .val (Value.int r0), .val (Value.int r1), .val (Value.int r2), .val (Value.int d0), .val (Value.int (v1 - r1)), .val (Value.int d1), .val (Value.int (v2 - r2)), .unset, .unset, .unset, .unset, .unset] []))
        refine own_iconst X0 hx hby at_188 ?_
        show own_G p e below s _ _ _ (s₁.setTop (mkF m 189 #[.val (Value.int x0), .val (Value.int x1), .val (Value.int x2), .val (Value.int x3), .val (Value.int x4), .val (Value.int x5), .val (Value.int ww), .val (Value.int (((x0.toUInt32 >>> ((7 : Int32) &&& 31).toUInt32).toInt32) &&& (3 : Int32))), .val (Value.int cl), .val (Value.int v0), .val (Value.int v0), .val (Value.int v1), .val (Value.int v2), .val (Value.int cnt), .val (Value.int r0), .val (Value.int r1), .val (Value.int r2), .val (Value.int d0), .val (Value.int (v1 - r1)), .val (Value.int d1), .val (Value.int (v2 - r2)), .unset, .unset, .unset, .unset, .unset] [(Value.int (0 : Int32))]))
        refine own_istore X0 hx hby at_189 (l' := #[.val (Value.int x0), .val (Value.int x1), .val (Value.int x2), .val (Value.int x3), .val (Value.int x4), .val (Value.int x5), .val (Value.int ww), .val (Value.int (((x0.toUInt32 >>> ((7 : Int32) &&& 31).toUInt32).toInt32) &&& (3 : Int32))), .val (Value.int cl), .val (Value.int v0), .val (Value.int v0), .val (Value.int v1), .val (Value.int v2), .val (Value.int cnt), .val (Value.int r0), .val (Value.int r1), .val (Value.int r2), .val (Value.int d0), .val (Value.int (v1 - r1)), .val (Value.int d1), .val (Value.int (v2 - r2)), .val (Value.int (0 : Int32)), .unset, .unset, .unset, .unset]) rfl ?_
        show own_G p e below s _ _ _ (s₁.setTop (mkF m 191 #[.val (Value.int x0), .val (Value.int x1), .val (Value.int x2), .val (Value.int x3), .val (Value.int x4), .val (Value.int x5), .val (Value.int ww), .val (Value.int (((x0.toUInt32 >>> ((7 : Int32) &&& 31).toUInt32).toInt32) &&& (3 : Int32))), .val (Value.int cl), .val (Value.int v0), .val (Value.int v0), .val (Value.int v1), .val (Value.int v2), .val (Value.int cnt), .val (Value.int r0), .val (Value.int r1), .val (Value.int r2), .val (Value.int d0), .val (Value.int (v1 - r1)), .val (Value.int d1), .val (Value.int (v2 - r2)), .val (Value.int (0 : Int32)), .unset, .unset, .unset, .unset] []))
        refine own_goto X0 hx hby at_191 (pc' := 234) (by decide) (by decide) ?_
        show own_G p e below s _ _ _ (s₁.setTop (mkF m 234 #[.val (Value.int x0), .val (Value.int x1), .val (Value.int x2), .val (Value.int x3), .val (Value.int x4), .val (Value.int x5), .val (Value.int ww), .val (Value.int (((x0.toUInt32 >>> ((7 : Int32) &&& 31).toUInt32).toInt32) &&& (3 : Int32))), .val (Value.int cl), .val (Value.int v0), .val (Value.int v0), .val (Value.int v1), .val (Value.int v2), .val (Value.int cnt), .val (Value.int r0), .val (Value.int r1), .val (Value.int r2), .val (Value.int d0), .val (Value.int (v1 - r1)), .val (Value.int d1), .val (Value.int (v2 - r2)), .val (Value.int (0 : Int32)), .unset, .unset, .unset, .unset] []))
        exact J234 d0 d1 _ hd0 hd1 (by simp only [own_d2, if_pos hb65])
    have J134 : ∀ (d0 : Int32) (hd0 : d0 = own_d0 r0), own_G p e below s (own_rm0_Q Z x0 x1 x2 x3 x4 x5 h0 n0) 24 1280 (s₁.setTop (mkF m 134 #[.val (Value.int x0), .val (Value.int x1), .val (Value.int x2), .val (Value.int x3), .val (Value.int x4), .val (Value.int x5), .val (Value.int ww), .val (Value.int (((x0.toUInt32 >>> ((7 : Int32) &&& 31).toUInt32).toInt32) &&& (3 : Int32))), .val (Value.int cl), .val (Value.int v0), .val (Value.int v0), .val (Value.int v1), .val (Value.int v2), .val (Value.int cnt), .val (Value.int r0), .val (Value.int r1), .val (Value.int r2), .val (Value.int d0), .unset, .unset, .unset, .unset, .unset, .unset, .unset, .unset] [])) := by
      intro d0 hd0
      show own_G p e below s _ _ _ (s₁.setTop (mkF m 134 #[.val (Value.int x0), .val (Value.int x1), .val (Value.int x2), .val (Value.int x3), .val (Value.int x4), .val (Value.int x5), .val (Value.int ww), .val (Value.int (((x0.toUInt32 >>> ((7 : Int32) &&& 31).toUInt32).toInt32) &&& (3 : Int32))), .val (Value.int cl), .val (Value.int v0), .val (Value.int v0), .val (Value.int v1), .val (Value.int v2), .val (Value.int cnt), .val (Value.int r0), .val (Value.int r1), .val (Value.int r2), .val (Value.int d0), .unset, .unset, .unset, .unset, .unset, .unset, .unset, .unset] []))
      refine own_iload X0 hx hby at_134 rfl ?_
      show own_G p e below s _ _ _ (s₁.setTop (mkF m 136 #[.val (Value.int x0), .val (Value.int x1), .val (Value.int x2), .val (Value.int x3), .val (Value.int x4), .val (Value.int x5), .val (Value.int ww), .val (Value.int (((x0.toUInt32 >>> ((7 : Int32) &&& 31).toUInt32).toInt32) &&& (3 : Int32))), .val (Value.int cl), .val (Value.int v0), .val (Value.int v0), .val (Value.int v1), .val (Value.int v2), .val (Value.int cnt), .val (Value.int r0), .val (Value.int r1), .val (Value.int r2), .val (Value.int d0), .unset, .unset, .unset, .unset, .unset, .unset, .unset, .unset] [(Value.int v1)]))
      refine own_iload X0 hx hby at_136 rfl ?_
      show own_G p e below s _ _ _ (s₁.setTop (mkF m 138 #[.val (Value.int x0), .val (Value.int x1), .val (Value.int x2), .val (Value.int x3), .val (Value.int x4), .val (Value.int x5), .val (Value.int ww), .val (Value.int (((x0.toUInt32 >>> ((7 : Int32) &&& 31).toUInt32).toInt32) &&& (3 : Int32))), .val (Value.int cl), .val (Value.int v0), .val (Value.int v0), .val (Value.int v1), .val (Value.int v2), .val (Value.int cnt), .val (Value.int r0), .val (Value.int r1), .val (Value.int r2), .val (Value.int d0), .unset, .unset, .unset, .unset, .unset, .unset, .unset, .unset] [(Value.int r1), (Value.int v1)]))
      refine own_isub X0 hx hby at_138 ?_
      show own_G p e below s _ _ _ (s₁.setTop (mkF m 139 #[.val (Value.int x0), .val (Value.int x1), .val (Value.int x2), .val (Value.int x3), .val (Value.int x4), .val (Value.int x5), .val (Value.int ww), .val (Value.int (((x0.toUInt32 >>> ((7 : Int32) &&& 31).toUInt32).toInt32) &&& (3 : Int32))), .val (Value.int cl), .val (Value.int v0), .val (Value.int v0), .val (Value.int v1), .val (Value.int v2), .val (Value.int cnt), .val (Value.int r0), .val (Value.int r1), .val (Value.int r2), .val (Value.int d0), .unset, .unset, .unset, .unset, .unset, .unset, .unset, .unset] [(Value.int (v1 - r1))]))
      refine own_istore X0 hx hby at_139 (l' := #[.val (Value.int x0), .val (Value.int x1), .val (Value.int x2), .val (Value.int x3), .val (Value.int x4), .val (Value.int x5), .val (Value.int ww), .val (Value.int (((x0.toUInt32 >>> ((7 : Int32) &&& 31).toUInt32).toInt32) &&& (3 : Int32))), .val (Value.int cl), .val (Value.int v0), .val (Value.int v0), .val (Value.int v1), .val (Value.int v2), .val (Value.int cnt), .val (Value.int r0), .val (Value.int r1), .val (Value.int r2), .val (Value.int d0), .val (Value.int (v1 - r1)), .unset, .unset, .unset, .unset, .unset, .unset, .unset]) rfl ?_
      show own_G p e below s _ _ _ (s₁.setTop (mkF m 141 #[.val (Value.int x0), .val (Value.int x1), .val (Value.int x2), .val (Value.int x3), .val (Value.int x4), .val (Value.int x5), .val (Value.int ww), .val (Value.int (((x0.toUInt32 >>> ((7 : Int32) &&& 31).toUInt32).toInt32) &&& (3 : Int32))), .val (Value.int cl), .val (Value.int v0), .val (Value.int v0), .val (Value.int v1), .val (Value.int v2), .val (Value.int cnt), .val (Value.int r0), .val (Value.int r1), .val (Value.int r2), .val (Value.int d0), .val (Value.int (v1 - r1)), .unset, .unset, .unset, .unset, .unset, .unset, .unset] []))
      refine own_iload X0 hx hby at_141 rfl ?_
      show own_G p e below s _ _ _ (s₁.setTop (mkF m 143 #[.val (Value.int x0), .val (Value.int x1), .val (Value.int x2), .val (Value.int x3), .val (Value.int x4), .val (Value.int x5), .val (Value.int ww), .val (Value.int (((x0.toUInt32 >>> ((7 : Int32) &&& 31).toUInt32).toInt32) &&& (3 : Int32))), .val (Value.int cl), .val (Value.int v0), .val (Value.int v0), .val (Value.int v1), .val (Value.int v2), .val (Value.int cnt), .val (Value.int r0), .val (Value.int r1), .val (Value.int r2), .val (Value.int d0), .val (Value.int (v1 - r1)), .unset, .unset, .unset, .unset, .unset, .unset, .unset] [(Value.int r1)]))
      refine own_if_ne X0 hx hby at_143 (pc' := 152) (by decide) (by decide) (fun hb69 => ?_) (fun hb69 => ?_)
      · show own_G p e below s _ _ _ (s₁.setTop (mkF m 152 #[.val (Value.int x0), .val (Value.int x1), .val (Value.int x2), .val (Value.int x3), .val (Value.int x4), .val (Value.int x5), .val (Value.int ww), .val (Value.int (((x0.toUInt32 >>> ((7 : Int32) &&& 31).toUInt32).toInt32) &&& (3 : Int32))), .val (Value.int cl), .val (Value.int v0), .val (Value.int v0), .val (Value.int v1), .val (Value.int v2), .val (Value.int cnt), .val (Value.int r0), .val (Value.int r1), .val (Value.int r2), .val (Value.int d0), .val (Value.int (v1 - r1)), .unset, .unset, .unset, .unset, .unset, .unset, .unset] []))
        refine own_iload X0 hx hby at_152 rfl ?_
        show own_G p e below s _ _ _ (s₁.setTop (mkF m 154 #[.val (Value.int x0), .val (Value.int x1), .val (Value.int x2), .val (Value.int x3), .val (Value.int x4), .val (Value.int x5), .val (Value.int ww), .val (Value.int (((x0.toUInt32 >>> ((7 : Int32) &&& 31).toUInt32).toInt32) &&& (3 : Int32))), .val (Value.int cl), .val (Value.int v0), .val (Value.int v0), .val (Value.int v1), .val (Value.int v2), .val (Value.int cnt), .val (Value.int r0), .val (Value.int r1), .val (Value.int r2), .val (Value.int d0), .val (Value.int (v1 - r1)), .unset, .unset, .unset, .unset, .unset, .unset, .unset] [(Value.int (v1 - r1))]))
        refine own_iload X0 hx hby at_154 rfl ?_
        show own_G p e below s _ _ _ (s₁.setTop (mkF m 156 #[.val (Value.int x0), .val (Value.int x1), .val (Value.int x2), .val (Value.int x3), .val (Value.int x4), .val (Value.int x5), .val (Value.int ww), .val (Value.int (((x0.toUInt32 >>> ((7 : Int32) &&& 31).toUInt32).toInt32) &&& (3 : Int32))), .val (Value.int cl), .val (Value.int v0), .val (Value.int v0), .val (Value.int v1), .val (Value.int v2), .val (Value.int cnt), .val (Value.int r0), .val (Value.int r1), .val (Value.int r2), .val (Value.int d0), .val (Value.int (v1 - r1)), .unset, .unset, .unset, .unset, .unset, .unset, .unset] [(Value.int v0), (Value.int (v1 - r1))]))
        refine own_icmp_ne X0 hx hby at_156 (pc' := 173) (by decide) (by decide) (fun hb70 => ?_) (fun hb70 => ?_)
        · show own_G p e below s _ _ _ (s₁.setTop (mkF m 173 #[.val (Value.int x0), .val (Value.int x1), .val (Value.int x2), .val (Value.int x3), .val (Value.int x4), .val (Value.int x5), .val (Value.int ww), .val (Value.int (((x0.toUInt32 >>> ((7 : Int32) &&& 31).toUInt32).toInt32) &&& (3 : Int32))), .val (Value.int cl), .val (Value.int v0), .val (Value.int v0), .val (Value.int v1), .val (Value.int v2), .val (Value.int cnt), .val (Value.int r0), .val (Value.int r1), .val (Value.int r2), .val (Value.int d0), .val (Value.int (v1 - r1)), .unset, .unset, .unset, .unset, .unset, .unset, .unset] []))
          refine own_iconst X0 hx hby at_173 ?_
          show own_G p e below s _ _ _ (s₁.setTop (mkF m 174 #[.val (Value.int x0), .val (Value.int x1), .val (Value.int x2), .val (Value.int x3), .val (Value.int x4), .val (Value.int x5), .val (Value.int ww), .val (Value.int (((x0.toUInt32 >>> ((7 : Int32) &&& 31).toUInt32).toInt32) &&& (3 : Int32))), .val (Value.int cl), .val (Value.int v0), .val (Value.int v0), .val (Value.int v1), .val (Value.int v2), .val (Value.int cnt), .val (Value.int r0), .val (Value.int r1), .val (Value.int r2), .val (Value.int d0), .val (Value.int (v1 - r1)), .unset, .unset, .unset, .unset, .unset, .unset, .unset] [(Value.int (1 : Int32))]))
          refine own_istore X0 hx hby at_174 (l' := #[.val (Value.int x0), .val (Value.int x1), .val (Value.int x2), .val (Value.int x3), .val (Value.int x4), .val (Value.int x5), .val (Value.int ww), .val (Value.int (((x0.toUInt32 >>> ((7 : Int32) &&& 31).toUInt32).toInt32) &&& (3 : Int32))), .val (Value.int cl), .val (Value.int v0), .val (Value.int v0), .val (Value.int v1), .val (Value.int v2), .val (Value.int cnt), .val (Value.int r0), .val (Value.int r1), .val (Value.int r2), .val (Value.int d0), .val (Value.int (v1 - r1)), .val (Value.int (1 : Int32)), .unset, .unset, .unset, .unset, .unset, .unset]) rfl ?_
          show own_G p e below s _ _ _ (s₁.setTop (mkF m 176 #[.val (Value.int x0), .val (Value.int x1), .val (Value.int x2), .val (Value.int x3), .val (Value.int x4), .val (Value.int x5), .val (Value.int ww), .val (Value.int (((x0.toUInt32 >>> ((7 : Int32) &&& 31).toUInt32).toInt32) &&& (3 : Int32))), .val (Value.int cl), .val (Value.int v0), .val (Value.int v0), .val (Value.int v1), .val (Value.int v2), .val (Value.int cnt), .val (Value.int r0), .val (Value.int r1), .val (Value.int r2), .val (Value.int d0), .val (Value.int (v1 - r1)), .val (Value.int (1 : Int32)), .unset, .unset, .unset, .unset, .unset, .unset] []))
          exact J176 d0 _ hd0 (by simp only [own_d1, if_neg hb69, if_neg hb70])
        · show own_G p e below s _ _ _ (s₁.setTop (mkF m 159 #[.val (Value.int x0), .val (Value.int x1), .val (Value.int x2), .val (Value.int x3), .val (Value.int x4), .val (Value.int x5), .val (Value.int ww), .val (Value.int (((x0.toUInt32 >>> ((7 : Int32) &&& 31).toUInt32).toInt32) &&& (3 : Int32))), .val (Value.int cl), .val (Value.int v0), .val (Value.int v0), .val (Value.int v1), .val (Value.int v2), .val (Value.int cnt), .val (Value.int r0), .val (Value.int r1), .val (Value.int r2), .val (Value.int d0), .val (Value.int (v1 - r1)), .unset, .unset, .unset, .unset, .unset, .unset, .unset] []))
          refine own_iload X0 hx hby at_159 rfl ?_
          show own_G p e below s _ _ _ (s₁.setTop (mkF m 161 #[.val (Value.int x0), .val (Value.int x1), .val (Value.int x2), .val (Value.int x3), .val (Value.int x4), .val (Value.int x5), .val (Value.int ww), .val (Value.int (((x0.toUInt32 >>> ((7 : Int32) &&& 31).toUInt32).toInt32) &&& (3 : Int32))), .val (Value.int cl), .val (Value.int v0), .val (Value.int v0), .val (Value.int v1), .val (Value.int v2), .val (Value.int cnt), .val (Value.int r0), .val (Value.int r1), .val (Value.int r2), .val (Value.int d0), .val (Value.int (v1 - r1)), .unset, .unset, .unset, .unset, .unset, .unset, .unset] [(Value.int cl)]))
          refine own_if_ne X0 hx hby at_161 (pc' := 173) (by decide) (by decide) (fun hb71 => ?_) (fun hb71 => ?_)
          · show own_G p e below s _ _ _ (s₁.setTop (mkF m 173 #[.val (Value.int x0), .val (Value.int x1), .val (Value.int x2), .val (Value.int x3), .val (Value.int x4), .val (Value.int x5), .val (Value.int ww), .val (Value.int (((x0.toUInt32 >>> ((7 : Int32) &&& 31).toUInt32).toInt32) &&& (3 : Int32))), .val (Value.int cl), .val (Value.int v0), .val (Value.int v0), .val (Value.int v1), .val (Value.int v2), .val (Value.int cnt), .val (Value.int r0), .val (Value.int r1), .val (Value.int r2), .val (Value.int d0), .val (Value.int (v1 - r1)), .unset, .unset, .unset, .unset, .unset, .unset, .unset] []))
            refine own_iconst X0 hx hby at_173 ?_
            show own_G p e below s _ _ _ (s₁.setTop (mkF m 174 #[.val (Value.int x0), .val (Value.int x1), .val (Value.int x2), .val (Value.int x3), .val (Value.int x4), .val (Value.int x5), .val (Value.int ww), .val (Value.int (((x0.toUInt32 >>> ((7 : Int32) &&& 31).toUInt32).toInt32) &&& (3 : Int32))), .val (Value.int cl), .val (Value.int v0), .val (Value.int v0), .val (Value.int v1), .val (Value.int v2), .val (Value.int cnt), .val (Value.int r0), .val (Value.int r1), .val (Value.int r2), .val (Value.int d0), .val (Value.int (v1 - r1)), .unset, .unset, .unset, .unset, .unset, .unset, .unset] [(Value.int (1 : Int32))]))
            refine own_istore X0 hx hby at_174 (l' := #[.val (Value.int x0), .val (Value.int x1), .val (Value.int x2), .val (Value.int x3), .val (Value.int x4), .val (Value.int x5), .val (Value.int ww), .val (Value.int (((x0.toUInt32 >>> ((7 : Int32) &&& 31).toUInt32).toInt32) &&& (3 : Int32))), .val (Value.int cl), .val (Value.int v0), .val (Value.int v0), .val (Value.int v1), .val (Value.int v2), .val (Value.int cnt), .val (Value.int r0), .val (Value.int r1), .val (Value.int r2), .val (Value.int d0), .val (Value.int (v1 - r1)), .val (Value.int (1 : Int32)), .unset, .unset, .unset, .unset, .unset, .unset]) rfl ?_
            show own_G p e below s _ _ _ (s₁.setTop (mkF m 176 #[.val (Value.int x0), .val (Value.int x1), .val (Value.int x2), .val (Value.int x3), .val (Value.int x4), .val (Value.int x5), .val (Value.int ww), .val (Value.int (((x0.toUInt32 >>> ((7 : Int32) &&& 31).toUInt32).toInt32) &&& (3 : Int32))), .val (Value.int cl), .val (Value.int v0), .val (Value.int v0), .val (Value.int v1), .val (Value.int v2), .val (Value.int cnt), .val (Value.int r0), .val (Value.int r1), .val (Value.int r2), .val (Value.int d0), .val (Value.int (v1 - r1)), .val (Value.int (1 : Int32)), .unset, .unset, .unset, .unset, .unset, .unset] []))
            exact J176 d0 _ hd0 (by simp only [own_d1, if_neg hb69, if_pos hb70, if_neg hb71])
          · show own_G p e below s _ _ _ (s₁.setTop (mkF m 164 #[.val (Value.int x0), .val (Value.int x1), .val (Value.int x2), .val (Value.int x3), .val (Value.int x4), .val (Value.int x5), .val (Value.int ww), .val (Value.int (((x0.toUInt32 >>> ((7 : Int32) &&& 31).toUInt32).toInt32) &&& (3 : Int32))), .val (Value.int cl), .val (Value.int v0), .val (Value.int v0), .val (Value.int v1), .val (Value.int v2), .val (Value.int cnt), .val (Value.int r0), .val (Value.int r1), .val (Value.int r2), .val (Value.int d0), .val (Value.int (v1 - r1)), .unset, .unset, .unset, .unset, .unset, .unset, .unset] []))
            refine own_iload X0 hx hby at_164 rfl ?_
            show own_G p e below s _ _ _ (s₁.setTop (mkF m 166 #[.val (Value.int x0), .val (Value.int x1), .val (Value.int x2), .val (Value.int x3), .val (Value.int x4), .val (Value.int x5), .val (Value.int ww), .val (Value.int (((x0.toUInt32 >>> ((7 : Int32) &&& 31).toUInt32).toInt32) &&& (3 : Int32))), .val (Value.int cl), .val (Value.int v0), .val (Value.int v0), .val (Value.int v1), .val (Value.int v2), .val (Value.int cnt), .val (Value.int r0), .val (Value.int r1), .val (Value.int r2), .val (Value.int d0), .val (Value.int (v1 - r1)), .unset, .unset, .unset, .unset, .unset, .unset, .unset] [(Value.int d0)]))
            refine own_iconst X0 hx hby at_166 ?_
            show own_G p e below s _ _ _ (s₁.setTop (mkF m 167 #[.val (Value.int x0), .val (Value.int x1), .val (Value.int x2), .val (Value.int x3), .val (Value.int x4), .val (Value.int x5), .val (Value.int ww), .val (Value.int (((x0.toUInt32 >>> ((7 : Int32) &&& 31).toUInt32).toInt32) &&& (3 : Int32))), .val (Value.int cl), .val (Value.int v0), .val (Value.int v0), .val (Value.int v1), .val (Value.int v2), .val (Value.int cnt), .val (Value.int r0), .val (Value.int r1), .val (Value.int r2), .val (Value.int d0), .val (Value.int (v1 - r1)), .unset, .unset, .unset, .unset, .unset, .unset, .unset] [(Value.int (1 : Int32)), (Value.int d0)]))
            refine own_iadd X0 hx hby at_167 ?_
            show own_G p e below s _ _ _ (s₁.setTop (mkF m 168 #[.val (Value.int x0), .val (Value.int x1), .val (Value.int x2), .val (Value.int x3), .val (Value.int x4), .val (Value.int x5), .val (Value.int ww), .val (Value.int (((x0.toUInt32 >>> ((7 : Int32) &&& 31).toUInt32).toInt32) &&& (3 : Int32))), .val (Value.int cl), .val (Value.int v0), .val (Value.int v0), .val (Value.int v1), .val (Value.int v2), .val (Value.int cnt), .val (Value.int r0), .val (Value.int r1), .val (Value.int r2), .val (Value.int d0), .val (Value.int (v1 - r1)), .unset, .unset, .unset, .unset, .unset, .unset, .unset] [(Value.int (d0 + (1 : Int32)))]))
            refine own_istore X0 hx hby at_168 (l' := #[.val (Value.int x0), .val (Value.int x1), .val (Value.int x2), .val (Value.int x3), .val (Value.int x4), .val (Value.int x5), .val (Value.int ww), .val (Value.int (((x0.toUInt32 >>> ((7 : Int32) &&& 31).toUInt32).toInt32) &&& (3 : Int32))), .val (Value.int cl), .val (Value.int v0), .val (Value.int v0), .val (Value.int v1), .val (Value.int v2), .val (Value.int cnt), .val (Value.int r0), .val (Value.int r1), .val (Value.int r2), .val (Value.int d0), .val (Value.int (v1 - r1)), .val (Value.int (d0 + (1 : Int32))), .unset, .unset, .unset, .unset, .unset, .unset]) rfl ?_
            show own_G p e below s _ _ _ (s₁.setTop (mkF m 170 #[.val (Value.int x0), .val (Value.int x1), .val (Value.int x2), .val (Value.int x3), .val (Value.int x4), .val (Value.int x5), .val (Value.int ww), .val (Value.int (((x0.toUInt32 >>> ((7 : Int32) &&& 31).toUInt32).toInt32) &&& (3 : Int32))), .val (Value.int cl), .val (Value.int v0), .val (Value.int v0), .val (Value.int v1), .val (Value.int v2), .val (Value.int cnt), .val (Value.int r0), .val (Value.int r1), .val (Value.int r2), .val (Value.int d0), .val (Value.int (v1 - r1)), .val (Value.int (d0 + (1 : Int32))), .unset, .unset, .unset, .unset, .unset, .unset] []))
            refine own_goto X0 hx hby at_170 (pc' := 176) (by decide) (by decide) ?_
            show own_G p e below s _ _ _ (s₁.setTop (mkF m 176 #[.val (Value.int x0), .val (Value.int x1), .val (Value.int x2), .val (Value.int x3), .val (Value.int x4), .val (Value.int x5), .val (Value.int ww), .val (Value.int (((x0.toUInt32 >>> ((7 : Int32) &&& 31).toUInt32).toInt32) &&& (3 : Int32))), .val (Value.int cl), .val (Value.int v0), .val (Value.int v0), .val (Value.int v1), .val (Value.int v2), .val (Value.int cnt), .val (Value.int r0), .val (Value.int r1), .val (Value.int r2), .val (Value.int d0), .val (Value.int (v1 - r1)), .val (Value.int (d0 + (1 : Int32))), .unset, .unset, .unset, .unset, .unset, .unset] []))
            exact J176 d0 _ hd0 (by simp only [own_d1, if_neg hb69, if_pos hb70, if_pos hb71])
      · show own_G p e below s _ _ _ (s₁.setTop (mkF m 146 #[.val (Value.int x0), .val (Value.int x1), .val (Value.int x2), .val (Value.int x3), .val (Value.int x4), .val (Value.int x5), .val (Value.int ww), .val (Value.int (((x0.toUInt32 >>> ((7 : Int32) &&& 31).toUInt32).toInt32) &&& (3 : Int32))), .val (Value.int cl), .val (Value.int v0), .val (Value.int v0), .val (Value.int v1), .val (Value.int v2), .val (Value.int cnt), .val (Value.int r0), .val (Value.int r1), .val (Value.int r2), .val (Value.int d0), .val (Value.int (v1 - r1)), .unset, .unset, .unset, .unset, .unset, .unset, .unset] []))
        refine own_iconst X0 hx hby at_146 ?_
        show own_G p e below s _ _ _ (s₁.setTop (mkF m 147 #[.val (Value.int x0), .val (Value.int x1), .val (Value.int x2), .val (Value.int x3), .val (Value.int x4), .val (Value.int x5), .val (Value.int ww), .val (Value.int (((x0.toUInt32 >>> ((7 : Int32) &&& 31).toUInt32).toInt32) &&& (3 : Int32))), .val (Value.int cl), .val (Value.int v0), .val (Value.int v0), .val (Value.int v1), .val (Value.int v2), .val (Value.int cnt), .val (Value.int r0), .val (Value.int r1), .val (Value.int r2), .val (Value.int d0), .val (Value.int (v1 - r1)), .unset, .unset, .unset, .unset, .unset, .unset, .unset] [(Value.int (0 : Int32))]))
        refine own_istore X0 hx hby at_147 (l' := #[.val (Value.int x0), .val (Value.int x1), .val (Value.int x2), .val (Value.int x3), .val (Value.int x4), .val (Value.int x5), .val (Value.int ww), .val (Value.int (((x0.toUInt32 >>> ((7 : Int32) &&& 31).toUInt32).toInt32) &&& (3 : Int32))), .val (Value.int cl), .val (Value.int v0), .val (Value.int v0), .val (Value.int v1), .val (Value.int v2), .val (Value.int cnt), .val (Value.int r0), .val (Value.int r1), .val (Value.int r2), .val (Value.int d0), .val (Value.int (v1 - r1)), .val (Value.int (0 : Int32)), .unset, .unset, .unset, .unset, .unset, .unset]) rfl ?_
        show own_G p e below s _ _ _ (s₁.setTop (mkF m 149 #[.val (Value.int x0), .val (Value.int x1), .val (Value.int x2), .val (Value.int x3), .val (Value.int x4), .val (Value.int x5), .val (Value.int ww), .val (Value.int (((x0.toUInt32 >>> ((7 : Int32) &&& 31).toUInt32).toInt32) &&& (3 : Int32))), .val (Value.int cl), .val (Value.int v0), .val (Value.int v0), .val (Value.int v1), .val (Value.int v2), .val (Value.int cnt), .val (Value.int r0), .val (Value.int r1), .val (Value.int r2), .val (Value.int d0), .val (Value.int (v1 - r1)), .val (Value.int (0 : Int32)), .unset, .unset, .unset, .unset, .unset, .unset] []))
        refine own_goto X0 hx hby at_149 (pc' := 176) (by decide) (by decide) ?_
        show own_G p e below s _ _ _ (s₁.setTop (mkF m 176 #[.val (Value.int x0), .val (Value.int x1), .val (Value.int x2), .val (Value.int x3), .val (Value.int x4), .val (Value.int x5), .val (Value.int ww), .val (Value.int (((x0.toUInt32 >>> ((7 : Int32) &&& 31).toUInt32).toInt32) &&& (3 : Int32))), .val (Value.int cl), .val (Value.int v0), .val (Value.int v0), .val (Value.int v1), .val (Value.int v2), .val (Value.int cnt), .val (Value.int r0), .val (Value.int r1), .val (Value.int r2), .val (Value.int d0), .val (Value.int (v1 - r1)), .val (Value.int (0 : Int32)), .unset, .unset, .unset, .unset, .unset, .unset] []))
        exact J176 d0 _ hd0 (by simp only [own_d1, if_pos hb69])
    show own_G p e below s _ _ _ (s₁.setTop (mkF m 122 #[.val (Value.int x0), .val (Value.int x1), .val (Value.int x2), .val (Value.int x3), .val (Value.int x4), .val (Value.int x5), .val (Value.int ww), .val (Value.int (((x0.toUInt32 >>> ((7 : Int32) &&& 31).toUInt32).toInt32) &&& (3 : Int32))), .val (Value.int cl), .val (Value.int v0), .val (Value.int v0), .val (Value.int v1), .val (Value.int v2), .val (Value.int cnt), .val (Value.int r0), .val (Value.int r1), .val (Value.int r2), .unset, .unset, .unset, .unset, .unset, .unset, .unset, .unset, .unset] []))
    refine own_iload X0 hx hby at_122 rfl ?_
    show own_G p e below s _ _ _ (s₁.setTop (mkF m 124 #[.val (Value.int x0), .val (Value.int x1), .val (Value.int x2), .val (Value.int x3), .val (Value.int x4), .val (Value.int x5), .val (Value.int ww), .val (Value.int (((x0.toUInt32 >>> ((7 : Int32) &&& 31).toUInt32).toInt32) &&& (3 : Int32))), .val (Value.int cl), .val (Value.int v0), .val (Value.int v0), .val (Value.int v1), .val (Value.int v2), .val (Value.int cnt), .val (Value.int r0), .val (Value.int r1), .val (Value.int r2), .unset, .unset, .unset, .unset, .unset, .unset, .unset, .unset, .unset] [(Value.int r0)]))
    refine own_if_ne X0 hx hby at_124 (pc' := 131) (by decide) (by decide) (fun hb72 => ?_) (fun hb72 => ?_)
    · show own_G p e below s _ _ _ (s₁.setTop (mkF m 131 #[.val (Value.int x0), .val (Value.int x1), .val (Value.int x2), .val (Value.int x3), .val (Value.int x4), .val (Value.int x5), .val (Value.int ww), .val (Value.int (((x0.toUInt32 >>> ((7 : Int32) &&& 31).toUInt32).toInt32) &&& (3 : Int32))), .val (Value.int cl), .val (Value.int v0), .val (Value.int v0), .val (Value.int v1), .val (Value.int v2), .val (Value.int cnt), .val (Value.int r0), .val (Value.int r1), .val (Value.int r2), .unset, .unset, .unset, .unset, .unset, .unset, .unset, .unset, .unset] []))
      refine own_iconst X0 hx hby at_131 ?_
      show own_G p e below s _ _ _ (s₁.setTop (mkF m 132 #[.val (Value.int x0), .val (Value.int x1), .val (Value.int x2), .val (Value.int x3), .val (Value.int x4), .val (Value.int x5), .val (Value.int ww), .val (Value.int (((x0.toUInt32 >>> ((7 : Int32) &&& 31).toUInt32).toInt32) &&& (3 : Int32))), .val (Value.int cl), .val (Value.int v0), .val (Value.int v0), .val (Value.int v1), .val (Value.int v2), .val (Value.int cnt), .val (Value.int r0), .val (Value.int r1), .val (Value.int r2), .unset, .unset, .unset, .unset, .unset, .unset, .unset, .unset, .unset] [(Value.int (1 : Int32))]))
      refine own_istore X0 hx hby at_132 (l' := #[.val (Value.int x0), .val (Value.int x1), .val (Value.int x2), .val (Value.int x3), .val (Value.int x4), .val (Value.int x5), .val (Value.int ww), .val (Value.int (((x0.toUInt32 >>> ((7 : Int32) &&& 31).toUInt32).toInt32) &&& (3 : Int32))), .val (Value.int cl), .val (Value.int v0), .val (Value.int v0), .val (Value.int v1), .val (Value.int v2), .val (Value.int cnt), .val (Value.int r0), .val (Value.int r1), .val (Value.int r2), .val (Value.int (1 : Int32)), .unset, .unset, .unset, .unset, .unset, .unset, .unset, .unset]) rfl ?_
      show own_G p e below s _ _ _ (s₁.setTop (mkF m 134 #[.val (Value.int x0), .val (Value.int x1), .val (Value.int x2), .val (Value.int x3), .val (Value.int x4), .val (Value.int x5), .val (Value.int ww), .val (Value.int (((x0.toUInt32 >>> ((7 : Int32) &&& 31).toUInt32).toInt32) &&& (3 : Int32))), .val (Value.int cl), .val (Value.int v0), .val (Value.int v0), .val (Value.int v1), .val (Value.int v2), .val (Value.int cnt), .val (Value.int r0), .val (Value.int r1), .val (Value.int r2), .val (Value.int (1 : Int32)), .unset, .unset, .unset, .unset, .unset, .unset, .unset, .unset] []))
      exact J134 _ (by simp only [own_d0, if_neg hb72])
    · show own_G p e below s _ _ _ (s₁.setTop (mkF m 127 #[.val (Value.int x0), .val (Value.int x1), .val (Value.int x2), .val (Value.int x3), .val (Value.int x4), .val (Value.int x5), .val (Value.int ww), .val (Value.int (((x0.toUInt32 >>> ((7 : Int32) &&& 31).toUInt32).toInt32) &&& (3 : Int32))), .val (Value.int cl), .val (Value.int v0), .val (Value.int v0), .val (Value.int v1), .val (Value.int v2), .val (Value.int cnt), .val (Value.int r0), .val (Value.int r1), .val (Value.int r2), .unset, .unset, .unset, .unset, .unset, .unset, .unset, .unset, .unset] []))
      refine own_iconst X0 hx hby at_127 ?_
      show own_G p e below s _ _ _ (s₁.setTop (mkF m 128 #[.val (Value.int x0), .val (Value.int x1), .val (Value.int x2), .val (Value.int x3), .val (Value.int x4), .val (Value.int x5), .val (Value.int ww), .val (Value.int (((x0.toUInt32 >>> ((7 : Int32) &&& 31).toUInt32).toInt32) &&& (3 : Int32))), .val (Value.int cl), .val (Value.int v0), .val (Value.int v0), .val (Value.int v1), .val (Value.int v2), .val (Value.int cnt), .val (Value.int r0), .val (Value.int r1), .val (Value.int r2), .unset, .unset, .unset, .unset, .unset, .unset, .unset, .unset, .unset] [(Value.int (0 : Int32))]))
      refine own_goto X0 hx hby at_128 (pc' := 132) (by decide) (by decide) ?_
      show own_G p e below s _ _ _ (s₁.setTop (mkF m 132 #[.val (Value.int x0), .val (Value.int x1), .val (Value.int x2), .val (Value.int x3), .val (Value.int x4), .val (Value.int x5), .val (Value.int ww), .val (Value.int (((x0.toUInt32 >>> ((7 : Int32) &&& 31).toUInt32).toInt32) &&& (3 : Int32))), .val (Value.int cl), .val (Value.int v0), .val (Value.int v0), .val (Value.int v1), .val (Value.int v2), .val (Value.int cnt), .val (Value.int r0), .val (Value.int r1), .val (Value.int r2), .unset, .unset, .unset, .unset, .unset, .unset, .unset, .unset, .unset] [(Value.int (0 : Int32))]))
      refine own_istore X0 hx hby at_132 (l' := #[.val (Value.int x0), .val (Value.int x1), .val (Value.int x2), .val (Value.int x3), .val (Value.int x4), .val (Value.int x5), .val (Value.int ww), .val (Value.int (((x0.toUInt32 >>> ((7 : Int32) &&& 31).toUInt32).toInt32) &&& (3 : Int32))), .val (Value.int cl), .val (Value.int v0), .val (Value.int v0), .val (Value.int v1), .val (Value.int v2), .val (Value.int cnt), .val (Value.int r0), .val (Value.int r1), .val (Value.int r2), .val (Value.int (0 : Int32)), .unset, .unset, .unset, .unset, .unset, .unset, .unset, .unset]) rfl ?_
      show own_G p e below s _ _ _ (s₁.setTop (mkF m 134 #[.val (Value.int x0), .val (Value.int x1), .val (Value.int x2), .val (Value.int x3), .val (Value.int x4), .val (Value.int x5), .val (Value.int ww), .val (Value.int (((x0.toUInt32 >>> ((7 : Int32) &&& 31).toUInt32).toInt32) &&& (3 : Int32))), .val (Value.int cl), .val (Value.int v0), .val (Value.int v0), .val (Value.int v1), .val (Value.int v2), .val (Value.int cnt), .val (Value.int r0), .val (Value.int r1), .val (Value.int r2), .val (Value.int (0 : Int32)), .unset, .unset, .unset, .unset, .unset, .unset, .unset, .unset] []))
      exact J134 _ (by simp only [own_d0, if_pos hb72])
  show own_G p e below s _ _ _ (s₁.setTop (mkF m 0 #[.val (Value.int x0), .val (Value.int x1), .val (Value.int x2), .val (Value.int x3), .val (Value.int x4), .val (Value.int x5), .unset, .unset, .unset, .unset, .unset, .unset, .unset, .unset, .unset, .unset, .unset, .unset, .unset, .unset, .unset, .unset, .unset, .unset, .unset, .unset] []))
  refine own_iloadN X0 hx hby at_0 rfl ?_
  show own_G p e below s _ _ _ (s₁.setTop (mkF m 1 #[.val (Value.int x0), .val (Value.int x1), .val (Value.int x2), .val (Value.int x3), .val (Value.int x4), .val (Value.int x5), .unset, .unset, .unset, .unset, .unset, .unset, .unset, .unset, .unset, .unset, .unset, .unset, .unset, .unset, .unset, .unset, .unset, .unset, .unset, .unset] [(Value.int x0)]))
  refine own_bipush X0 hx hby at_1 ?_
  show own_G p e below s _ _ _ (s₁.setTop (mkF m 3 #[.val (Value.int x0), .val (Value.int x1), .val (Value.int x2), .val (Value.int x3), .val (Value.int x4), .val (Value.int x5), .unset, .unset, .unset, .unset, .unset, .unset, .unset, .unset, .unset, .unset, .unset, .unset, .unset, .unset, .unset, .unset, .unset, .unset, .unset, .unset] [(Value.int (127 : Int32)), (Value.int x0)]))
  refine own_iand X0 hx hby at_3 ?_
  show own_G p e below s _ _ _ (s₁.setTop (mkF m 4 #[.val (Value.int x0), .val (Value.int x1), .val (Value.int x2), .val (Value.int x3), .val (Value.int x4), .val (Value.int x5), .unset, .unset, .unset, .unset, .unset, .unset, .unset, .unset, .unset, .unset, .unset, .unset, .unset, .unset, .unset, .unset, .unset, .unset, .unset, .unset] [(Value.int (x0 &&& (127 : Int32)))]))
  refine own_istore X0 hx hby at_4 (l' := #[.val (Value.int x0), .val (Value.int x1), .val (Value.int x2), .val (Value.int x3), .val (Value.int x4), .val (Value.int x5), .val (Value.int (x0 &&& (127 : Int32))), .unset, .unset, .unset, .unset, .unset, .unset, .unset, .unset, .unset, .unset, .unset, .unset, .unset, .unset, .unset, .unset, .unset, .unset, .unset]) rfl ?_
  show own_G p e below s _ _ _ (s₁.setTop (mkF m 6 #[.val (Value.int x0), .val (Value.int x1), .val (Value.int x2), .val (Value.int x3), .val (Value.int x4), .val (Value.int x5), .val (Value.int (x0 &&& (127 : Int32))), .unset, .unset, .unset, .unset, .unset, .unset, .unset, .unset, .unset, .unset, .unset, .unset, .unset, .unset, .unset, .unset, .unset, .unset, .unset] []))
  refine own_iloadN X0 hx hby at_6 rfl ?_
  show own_G p e below s _ _ _ (s₁.setTop (mkF m 7 #[.val (Value.int x0), .val (Value.int x1), .val (Value.int x2), .val (Value.int x3), .val (Value.int x4), .val (Value.int x5), .val (Value.int (x0 &&& (127 : Int32))), .unset, .unset, .unset, .unset, .unset, .unset, .unset, .unset, .unset, .unset, .unset, .unset, .unset, .unset, .unset, .unset, .unset, .unset, .unset] [(Value.int x0)]))
  refine own_bipush X0 hx hby at_7 ?_
  show own_G p e below s _ _ _ (s₁.setTop (mkF m 9 #[.val (Value.int x0), .val (Value.int x1), .val (Value.int x2), .val (Value.int x3), .val (Value.int x4), .val (Value.int x5), .val (Value.int (x0 &&& (127 : Int32))), .unset, .unset, .unset, .unset, .unset, .unset, .unset, .unset, .unset, .unset, .unset, .unset, .unset, .unset, .unset, .unset, .unset, .unset, .unset] [(Value.int (7 : Int32)), (Value.int x0)]))
  refine own_iushr X0 hx hby at_9 ?_
  show own_G p e below s _ _ _ (s₁.setTop (mkF m 10 #[.val (Value.int x0), .val (Value.int x1), .val (Value.int x2), .val (Value.int x3), .val (Value.int x4), .val (Value.int x5), .val (Value.int (x0 &&& (127 : Int32))), .unset, .unset, .unset, .unset, .unset, .unset, .unset, .unset, .unset, .unset, .unset, .unset, .unset, .unset, .unset, .unset, .unset, .unset, .unset] [(Value.int ((x0.toUInt32 >>> ((7 : Int32) &&& 31).toUInt32).toInt32))]))
  refine own_iconst X0 hx hby at_10 ?_
  show own_G p e below s _ _ _ (s₁.setTop (mkF m 11 #[.val (Value.int x0), .val (Value.int x1), .val (Value.int x2), .val (Value.int x3), .val (Value.int x4), .val (Value.int x5), .val (Value.int (x0 &&& (127 : Int32))), .unset, .unset, .unset, .unset, .unset, .unset, .unset, .unset, .unset, .unset, .unset, .unset, .unset, .unset, .unset, .unset, .unset, .unset, .unset] [(Value.int (3 : Int32)), (Value.int ((x0.toUInt32 >>> ((7 : Int32) &&& 31).toUInt32).toInt32))]))
  refine own_iand X0 hx hby at_11 ?_
  show own_G p e below s _ _ _ (s₁.setTop (mkF m 12 #[.val (Value.int x0), .val (Value.int x1), .val (Value.int x2), .val (Value.int x3), .val (Value.int x4), .val (Value.int x5), .val (Value.int (x0 &&& (127 : Int32))), .unset, .unset, .unset, .unset, .unset, .unset, .unset, .unset, .unset, .unset, .unset, .unset, .unset, .unset, .unset, .unset, .unset, .unset, .unset] [(Value.int (((x0.toUInt32 >>> ((7 : Int32) &&& 31).toUInt32).toInt32) &&& (3 : Int32)))]))
  refine own_istore X0 hx hby at_12 (l' := #[.val (Value.int x0), .val (Value.int x1), .val (Value.int x2), .val (Value.int x3), .val (Value.int x4), .val (Value.int x5), .val (Value.int (x0 &&& (127 : Int32))), .val (Value.int (((x0.toUInt32 >>> ((7 : Int32) &&& 31).toUInt32).toInt32) &&& (3 : Int32))), .unset, .unset, .unset, .unset, .unset, .unset, .unset, .unset, .unset, .unset, .unset, .unset, .unset, .unset, .unset, .unset, .unset, .unset]) rfl ?_
  show own_G p e below s _ _ _ (s₁.setTop (mkF m 14 #[.val (Value.int x0), .val (Value.int x1), .val (Value.int x2), .val (Value.int x3), .val (Value.int x4), .val (Value.int x5), .val (Value.int (x0 &&& (127 : Int32))), .val (Value.int (((x0.toUInt32 >>> ((7 : Int32) &&& 31).toUInt32).toInt32) &&& (3 : Int32))), .unset, .unset, .unset, .unset, .unset, .unset, .unset, .unset, .unset, .unset, .unset, .unset, .unset, .unset, .unset, .unset, .unset, .unset] []))
  refine own_iloadN X0 hx hby at_14 rfl ?_
  show own_G p e below s _ _ _ (s₁.setTop (mkF m 15 #[.val (Value.int x0), .val (Value.int x1), .val (Value.int x2), .val (Value.int x3), .val (Value.int x4), .val (Value.int x5), .val (Value.int (x0 &&& (127 : Int32))), .val (Value.int (((x0.toUInt32 >>> ((7 : Int32) &&& 31).toUInt32).toInt32) &&& (3 : Int32))), .unset, .unset, .unset, .unset, .unset, .unset, .unset, .unset, .unset, .unset, .unset, .unset, .unset, .unset, .unset, .unset, .unset, .unset] [(Value.int x0)]))
  refine own_bipush X0 hx hby at_15 ?_
  show own_G p e below s _ _ _ (s₁.setTop (mkF m 17 #[.val (Value.int x0), .val (Value.int x1), .val (Value.int x2), .val (Value.int x3), .val (Value.int x4), .val (Value.int x5), .val (Value.int (x0 &&& (127 : Int32))), .val (Value.int (((x0.toUInt32 >>> ((7 : Int32) &&& 31).toUInt32).toInt32) &&& (3 : Int32))), .unset, .unset, .unset, .unset, .unset, .unset, .unset, .unset, .unset, .unset, .unset, .unset, .unset, .unset, .unset, .unset, .unset, .unset] [(Value.int (9 : Int32)), (Value.int x0)]))
  refine own_iushr X0 hx hby at_17 ?_
  show own_G p e below s _ _ _ (s₁.setTop (mkF m 18 #[.val (Value.int x0), .val (Value.int x1), .val (Value.int x2), .val (Value.int x3), .val (Value.int x4), .val (Value.int x5), .val (Value.int (x0 &&& (127 : Int32))), .val (Value.int (((x0.toUInt32 >>> ((7 : Int32) &&& 31).toUInt32).toInt32) &&& (3 : Int32))), .unset, .unset, .unset, .unset, .unset, .unset, .unset, .unset, .unset, .unset, .unset, .unset, .unset, .unset, .unset, .unset, .unset, .unset] [(Value.int ((x0.toUInt32 >>> ((9 : Int32) &&& 31).toUInt32).toInt32))]))
  refine own_iconst X0 hx hby at_18 ?_
  show own_G p e below s _ _ _ (s₁.setTop (mkF m 19 #[.val (Value.int x0), .val (Value.int x1), .val (Value.int x2), .val (Value.int x3), .val (Value.int x4), .val (Value.int x5), .val (Value.int (x0 &&& (127 : Int32))), .val (Value.int (((x0.toUInt32 >>> ((7 : Int32) &&& 31).toUInt32).toInt32) &&& (3 : Int32))), .unset, .unset, .unset, .unset, .unset, .unset, .unset, .unset, .unset, .unset, .unset, .unset, .unset, .unset, .unset, .unset, .unset, .unset] [(Value.int (1 : Int32)), (Value.int ((x0.toUInt32 >>> ((9 : Int32) &&& 31).toUInt32).toInt32))]))
  refine own_iand X0 hx hby at_19 ?_
  show own_G p e below s _ _ _ (s₁.setTop (mkF m 20 #[.val (Value.int x0), .val (Value.int x1), .val (Value.int x2), .val (Value.int x3), .val (Value.int x4), .val (Value.int x5), .val (Value.int (x0 &&& (127 : Int32))), .val (Value.int (((x0.toUInt32 >>> ((7 : Int32) &&& 31).toUInt32).toInt32) &&& (3 : Int32))), .unset, .unset, .unset, .unset, .unset, .unset, .unset, .unset, .unset, .unset, .unset, .unset, .unset, .unset, .unset, .unset, .unset, .unset] [(Value.int (((x0.toUInt32 >>> ((9 : Int32) &&& 31).toUInt32).toInt32) &&& (1 : Int32)))]))
  refine own_if_eq X0 hx hby at_20 (pc' := 27) (by decide) (by decide) (fun hb73 => ?_) (fun hb73 => ?_)
  · show own_G p e below s _ _ _ (s₁.setTop (mkF m 27 #[.val (Value.int x0), .val (Value.int x1), .val (Value.int x2), .val (Value.int x3), .val (Value.int x4), .val (Value.int x5), .val (Value.int (x0 &&& (127 : Int32))), .val (Value.int (((x0.toUInt32 >>> ((7 : Int32) &&& 31).toUInt32).toInt32) &&& (3 : Int32))), .unset, .unset, .unset, .unset, .unset, .unset, .unset, .unset, .unset, .unset, .unset, .unset, .unset, .unset, .unset, .unset, .unset, .unset] []))
    refine own_iconst X0 hx hby at_27 ?_
    show own_G p e below s _ _ _ (s₁.setTop (mkF m 28 #[.val (Value.int x0), .val (Value.int x1), .val (Value.int x2), .val (Value.int x3), .val (Value.int x4), .val (Value.int x5), .val (Value.int (x0 &&& (127 : Int32))), .val (Value.int (((x0.toUInt32 >>> ((7 : Int32) &&& 31).toUInt32).toInt32) &&& (3 : Int32))), .unset, .unset, .unset, .unset, .unset, .unset, .unset, .unset, .unset, .unset, .unset, .unset, .unset, .unset, .unset, .unset, .unset, .unset] [(Value.int (0 : Int32))]))
    refine own_istore X0 hx hby at_28 (l' := #[.val (Value.int x0), .val (Value.int x1), .val (Value.int x2), .val (Value.int x3), .val (Value.int x4), .val (Value.int x5), .val (Value.int (x0 &&& (127 : Int32))), .val (Value.int (((x0.toUInt32 >>> ((7 : Int32) &&& 31).toUInt32).toInt32) &&& (3 : Int32))), .val (Value.int (0 : Int32)), .unset, .unset, .unset, .unset, .unset, .unset, .unset, .unset, .unset, .unset, .unset, .unset, .unset, .unset, .unset, .unset, .unset]) rfl ?_
    show own_G p e below s _ _ _ (s₁.setTop (mkF m 30 #[.val (Value.int x0), .val (Value.int x1), .val (Value.int x2), .val (Value.int x3), .val (Value.int x4), .val (Value.int x5), .val (Value.int (x0 &&& (127 : Int32))), .val (Value.int (((x0.toUInt32 >>> ((7 : Int32) &&& 31).toUInt32).toInt32) &&& (3 : Int32))), .val (Value.int (0 : Int32)), .unset, .unset, .unset, .unset, .unset, .unset, .unset, .unset, .unset, .unset, .unset, .unset, .unset, .unset, .unset, .unset, .unset] []))
    exact J30 _
  · show own_G p e below s _ _ _ (s₁.setTop (mkF m 23 #[.val (Value.int x0), .val (Value.int x1), .val (Value.int x2), .val (Value.int x3), .val (Value.int x4), .val (Value.int x5), .val (Value.int (x0 &&& (127 : Int32))), .val (Value.int (((x0.toUInt32 >>> ((7 : Int32) &&& 31).toUInt32).toInt32) &&& (3 : Int32))), .unset, .unset, .unset, .unset, .unset, .unset, .unset, .unset, .unset, .unset, .unset, .unset, .unset, .unset, .unset, .unset, .unset, .unset] []))
    refine own_iconst X0 hx hby at_23 ?_
    show own_G p e below s _ _ _ (s₁.setTop (mkF m 24 #[.val (Value.int x0), .val (Value.int x1), .val (Value.int x2), .val (Value.int x3), .val (Value.int x4), .val (Value.int x5), .val (Value.int (x0 &&& (127 : Int32))), .val (Value.int (((x0.toUInt32 >>> ((7 : Int32) &&& 31).toUInt32).toInt32) &&& (3 : Int32))), .unset, .unset, .unset, .unset, .unset, .unset, .unset, .unset, .unset, .unset, .unset, .unset, .unset, .unset, .unset, .unset, .unset, .unset] [(Value.int (1 : Int32))]))
    refine own_goto X0 hx hby at_24 (pc' := 28) (by decide) (by decide) ?_
    show own_G p e below s _ _ _ (s₁.setTop (mkF m 28 #[.val (Value.int x0), .val (Value.int x1), .val (Value.int x2), .val (Value.int x3), .val (Value.int x4), .val (Value.int x5), .val (Value.int (x0 &&& (127 : Int32))), .val (Value.int (((x0.toUInt32 >>> ((7 : Int32) &&& 31).toUInt32).toInt32) &&& (3 : Int32))), .unset, .unset, .unset, .unset, .unset, .unset, .unset, .unset, .unset, .unset, .unset, .unset, .unset, .unset, .unset, .unset, .unset, .unset] [(Value.int (1 : Int32))]))
    refine own_istore X0 hx hby at_28 (l' := #[.val (Value.int x0), .val (Value.int x1), .val (Value.int x2), .val (Value.int x3), .val (Value.int x4), .val (Value.int x5), .val (Value.int (x0 &&& (127 : Int32))), .val (Value.int (((x0.toUInt32 >>> ((7 : Int32) &&& 31).toUInt32).toInt32) &&& (3 : Int32))), .val (Value.int (1 : Int32)), .unset, .unset, .unset, .unset, .unset, .unset, .unset, .unset, .unset, .unset, .unset, .unset, .unset, .unset, .unset, .unset, .unset]) rfl ?_
    show own_G p e below s _ _ _ (s₁.setTop (mkF m 30 #[.val (Value.int x0), .val (Value.int x1), .val (Value.int x2), .val (Value.int x3), .val (Value.int x4), .val (Value.int x5), .val (Value.int (x0 &&& (127 : Int32))), .val (Value.int (((x0.toUInt32 >>> ((7 : Int32) &&& 31).toUInt32).toInt32) &&& (3 : Int32))), .val (Value.int (1 : Int32)), .unset, .unset, .unset, .unset, .unset, .unset, .unset, .unset, .unset, .unset, .unset, .unset, .unset, .unset, .unset, .unset, .unset] []))
    exact J30 _
set_option maxRecDepth 65536 in
set_option maxHeartbeats 40000000 in
theorem comes_1 {Post : Tables → Env → Array Value → State → Outcome → State → Prop} (hpost : ∀ tb e args s v u, (limb_1_1.after args s (.returned v) u = true ∧ limb_1_2.after args s (.returned v) u = true ∧ True) → FrameEnd s (.returned v) u (Jvm.fieldLocs frame_1_writes args s ++ Jvm.arrayLocs frame_1_arrays args s ++ Jvm.staticLocs frame_1_statics s) 24 1280 → Post tb e args s (.returned v) u) :
    ArmFor flags0 classFile x code maxLocals ret World_1 tables_1 room_1 Calls_1 rest_1 Pre_1 Post := by
  intro l hfl _ _ p e ha hc hk s m args below hf hA hF happ hP
  obtain ⟨hcalls, hrest, hpre⟩ := hP
  obtain ⟨-, -, -, hnamed, -, -, -, hat⟩ := (Spec.applies_iff hf).mp happ
  obtain ⟨hg, hn⟩ := and_e (Cond.before_iff.mp (show (Jvm.Cond.and given_1 narrow_1).before args s = true from hpre))
  obtain ⟨hgc, hgr0⟩ := and_e hg
  obtain ⟨hga0, hgr1⟩ := and_e hgr0
  obtain ⟨hga1, hgr2⟩ := and_e hgr1
  obtain ⟨hga2, hgr3⟩ := and_e hgr2
  obtain ⟨hga3, hgr4⟩ := and_e hgr3
  obtain ⟨hga4, hgr5⟩ := and_e hgr4
  have hga5 := hgr5
  obtain ⟨w0, w1, w2, w3, w4, w5, rfl⟩ : ∃ w0 w1 w2 w3 w4 w5 : Value, args = #[w0, w1, w2, w3, w4, w5] := by
    have hs : args.size = 6 := by simpa [Cond.value, given_1] using hgc
    obtain ⟨L⟩ := args
    match L, hs with
    | [w0, w1, w2, w3, w4, w5], _ => exact ⟨w0, w1, w2, w3, w4, w5, rfl⟩
  have hw := fun d (hd : d ∈ tables_1) => atoms_spec (ws := Jvm.Cond.code x code maxLocals ret :: tables_1) hat d (List.mem_cons_of_mem _ hd)
  have hfit : Fit s := fun {y c} hc i hi => by
    obtain ⟨ha, rfl⟩ := Array.getElem?_eq_some_iff.mp hc
    have q := List.all_eq_true.mp ((Array.all_eq_true_iff_forall_mem.mp hF) _ (Array.getElem_mem ha)) i (List.mem_range.mpr hi)
    simpa [Array.getElem?_eq_getElem hi] using q
  obtain ⟨i0, ei0⟩ := is_v hga0
  obtain rfl : w0 = (.int i0) := Option.some.inj ei0
  obtain ⟨i1, ei1⟩ := is_v hga1
  obtain rfl : w1 = (.int i1) := Option.some.inj ei1
  obtain ⟨i2, ei2⟩ := is_v hga2
  obtain rfl : w2 = (.int i2) := Option.some.inj ei2
  obtain ⟨i3, ei3⟩ := is_v hga3
  obtain rfl : w3 = (.int i3) := Option.some.inj ei3
  obtain ⟨i4, ei4⟩ := is_v hga4
  obtain rfl : w4 = (.int i4) := Option.some.inj ei4
  obtain ⟨i5, ei5⟩ := is_v hga5
  obtain rfl : w5 = (.int i5) := Option.some.inj ei5
  obtain ⟨n, o, h1, h2, h3, _, L, rfl, ⟨rfl, N⟩, hq⟩ := own_rm0 l s _ hw tables_1 i0 i1 i2 i3 i4 i5  s.heap s.heap.size (Old.start s)  p e ha hc hk s m _ below hf ((Spec.applies_iff_loose hf).mp happ).1 ⟨rfl, State.Warmed39.refl s, rfl⟩ trivial
  refine ⟨n, _, h1, h2, h3, hpost _ _ _ _ _ _ ⟨Cond.after_iff.mpr rfl, Cond.after_iff.mpr (eq_i res_at (Term.int_eval (1)) rfl), trivial⟩ ⟨hq.1, hq.2.1, (hq.2.2.sift fun y hy => Or.inr (N y hy)).mono (by decide) (by decide)⟩⟩
theorem main_1_1 : Claimed_1_1 := comes_1 fun _ _ _ _ _ _ h hF => ⟨h.1, hF⟩
theorem main_1_2 : Claimed_1_2 := comes_1 fun _ _ _ _ _ _ h hF => ⟨h.2.1, hF⟩
end Jvm.Pilot.@@N@@
namespace Jvm.Pilot.@@N@@
open Jvm Jvm.ClassFile Sem Op Lib Jvm.Free Jvm.Stand Jvm.Pilot.@@N@@.Jvm.D
/-! MADE BY PROGRAM (witnessworld.py) out of the Statement's table words and the real class files: 16 classes; the members and pool entries that the words name. The judged class is class 1, her method 1. -/
namespace start1
open Jvm.ClassFile
def u (s : String) : CpInfo := .utf8 (stringToUtf16 s)
/-- a pool by its gaps: so many unusable entries, then the entry; so many at the end -/
def gap : Nat → List CpInfo → List CpInfo
  | 0, r => r
  | n + 1, r => .unusable :: gap n r
def poolList (es : List (Nat × CpInfo)) (last : Nat) : List CpInfo := es.foldr (fun e r => gap e.1 (e.2 :: r)) (gap last [])
def pool (es : List (Nat × CpInfo)) (last : Nat) : Array CpInfo := ⟨poolList es last⟩
def fileOf (pool : Array CpInfo) (this : Nat) (attrs : Array Attribute := #[]) (ms : Array MethodInfo := #[]) (fl : Nat := 33) (sup : Nat := 0) (ifs : Array Nat := #[]) (fds : Array FieldInfo := #[]) : ClassFile where
  minorVersion := 0
  majorVersion := 65
  constantPool := pool
  accessFlags := fl
  thisClass := this
  superClass := sup
  interfaces := ifs
  fields := fds
  methods := ms
  attributes := attrs
def plain (name : String) (sup : Option ClassId) : Class where
  name := name
  kind := .ordinary
  loader := none
  accessFlags := 33
  super := sup
  interfaces := #[]
  cf := none
  fields := #[]
  methods := #[]
  instanceTypes := #[]
  staticTypes := #[]
  resolved := #[]
  callSites := []
  init := .initialized
  statics := none
  mirror := none

def pool0 : Array CpInfo := pool [(5, u "<init>"), (0, u "()V"), (1, .class_ 10), (1, u "java/lang/Object")] 113

def k0c0 : Code := { maxStack := 0, maxLocals := 1, code := object_method_1_code, exceptionTable := #[], attributes := #[] }
def k0m0 : Method := { name := "<init>", desc := "()V", sig := { parameters := [], returnType := none }, accessFlags := 1, code := some k0c0 }
/-- java/lang/Object -/
def k0 : Class := { plain "java/lang/Object" none with
  accessFlags := 33
  interfaces := #[]
  cf := some (fileOf pool0 8 #[] #[{ accessFlags := 1, nameIndex := 5, descriptorIndex := 6, attributes := #[] }] 33 0 #[] #[])
  fields := #[]
  methods := #[k0m0]
  instanceTypes := #[]
  staticTypes := #[]
  resolved := Array.replicate 124 none
  statics := none }

def pool1 : Array CpInfo := pool [(2, .class_ 4), (1, u "java/lang/Object"), (0, u "<init>"), (0, u "()V"), (0, .integer 1073741823), (0, .integer 2147483647), (0, .integer 2147483648), (0, .class_ 11), (0, u "com/example/tuck/tuck/ListWindow"), (0, .methodref 10 13), (0, .nameAndType 5 14), (0, u "(II)V"), (0, .methodref 10 16), (0, .nameAndType 17 18), (0, u "keep"), (0, u "(I[II)V"), (0, .methodref 10 20), (0, .nameAndType 21 6), (0, u "clear"), (0, .methodref 10 23), (0, .nameAndType 24 25), (0, u "depth"), (0, u "(I)I"), (0, .class_ 27), (0, u "com/example/tuck/tuck/ListWindowDepthPinLaw"), (2, u "law"), (0, u "(IIIIII)Z")] 3

def k1m0 : Method := { name := "<init>", desc := "()V", sig := { parameters := [], returnType := none }, accessFlags := 1, code := none }
def k1c1 : Code := { maxStack := 4, maxLocals := 26, code := code, exceptionTable := #[], attributes := #[] }
def k1m1 : Method := { name := "law", desc := "(IIIIII)Z", sig := { parameters := [.int, .int, .int, .int, .int, .int], returnType := some .boolean }, accessFlags := 9, code := some k1c1 }
/-- com/example/tuck/tuck/ListWindowDepthPinLaw -/
def k1 : Class := { plain "com/example/tuck/tuck/ListWindowDepthPinLaw" (some 0) with
  accessFlags := 49
  interfaces := #[]
  cf := some (fileOf pool1 26 #[] #[{ accessFlags := 1, nameIndex := 5, descriptorIndex := 6, attributes := #[] }, { accessFlags := 9, nameIndex := 30, descriptorIndex := 31, attributes := #[] }] 49 2 #[] #[])
  fields := #[]
  methods := #[k1m0, k1m1]
  instanceTypes := #[]
  staticTypes := #[]
  resolved := Array.replicate 35 none
  statics := none }

def pool2 : Array CpInfo := pool [(1, .methodref 2 3), (0, .class_ 4), (0, .nameAndType 5 6), (0, u "java/lang/Object"), (0, u "<init>"), (0, u "()V"), (0, .methodref 8 9), (0, .class_ 10), (0, .nameAndType 11 12), (0, u "java/lang/Math"), (0, u "min"), (0, u "(JJ)J"), (0, .methodref 8 14), (0, .nameAndType 15 12), (0, u "max"), (0, .methodref 17 18), (0, .class_ 19), (0, .nameAndType 20 21), (0, u "java/lang/Integer"), (0, u "highestOneBit"), (0, u "(I)I"), (0, .fieldref 23 24), (0, .class_ 25), (0, .nameAndType 26 27), (0, u "com/example/tuck/tuck/ListWindow"), (0, u "limit"), (0, u "I"), (0, .methodref 8 29), (0, .nameAndType 11 30), (0, u "(II)I"), (0, .fieldref 23 32), (0, .nameAndType 33 34), (0, u "vertices"), (0, u "[I"), (0, .class_ 34), (0, .fieldref 23 37), (0, .nameAndType 38 39), (0, u "lists"), (0, u "[[I"), (0, .fieldref 23 41), (0, .nameAndType 42 34), (0, u "depths"), (0, .methodref 44 45), (0, .class_ 46), (0, .nameAndType 47 48), (0, u "java/util/Arrays"), (0, u "fill"), (0, u "([II)V"), (0, .methodref 23 50), (0, .nameAndType 51 21), (0, u "depth"), (0, .methodref 23 53), (0, .nameAndType 54 6), (0, u "grow"), (0, u "FIRST_LENGTH"), (2, u "(II)V"), (3, u "clear"), (0, u "keep"), (0, u "(I[II)V")] 5

def k2c0 : Code := { maxStack := 6, maxLocals := 5, code := prog_53_method_1_code, exceptionTable := #[], attributes := #[] }
def k2m0 : Method := { name := "<init>", desc := "(II)V", sig := { parameters := [.int, .int], returnType := none }, accessFlags := 0, code := some k2c0 }
def k2c1 : Code := { maxStack := 2, maxLocals := 1, code := prog_53_method_2_code, exceptionTable := #[], attributes := #[] }
def k2m1 : Method := { name := "clear", desc := "()V", sig := { parameters := [], returnType := none }, accessFlags := 0, code := some k2c1 }
def k2c2 : Code := { maxStack := 3, maxLocals := 6, code := prog_53_method_3_code, exceptionTable := #[], attributes := #[] }
def k2m2 : Method := { name := "keep", desc := "(I[II)V", sig := { parameters := [.int, (.array .int), .int], returnType := none }, accessFlags := 0, code := some k2c2 }
def k2c3 : Code := { maxStack := 4, maxLocals := 7, code := prog_53_method_4_code, exceptionTable := #[], attributes := #[] }
def k2m3 : Method := { name := "grow", desc := "()V", sig := { parameters := [], returnType := none }, accessFlags := 2, code := some k2c3 }
def k2c4 : Code := { maxStack := 3, maxLocals := 3, code := prog_53_method_6_code, exceptionTable := #[], attributes := #[] }
def k2m4 : Method := { name := "depth", desc := "(I)I", sig := { parameters := [.int], returnType := some .int }, accessFlags := 0, code := some k2c4 }
/-- com/example/tuck/tuck/ListWindow -/
def k2 : Class := { plain "com/example/tuck/tuck/ListWindow" (some 0) with
  accessFlags := 32
  interfaces := #[]
  cf := some (fileOf pool2 23 #[] #[{ accessFlags := 0, nameIndex := 5, descriptorIndex := 58, attributes := #[] }, { accessFlags := 0, nameIndex := 62, descriptorIndex := 6, attributes := #[] }, { accessFlags := 0, nameIndex := 63, descriptorIndex := 64, attributes := #[] }, { accessFlags := 2, nameIndex := 54, descriptorIndex := 6, attributes := #[] }, { accessFlags := 0, nameIndex := 51, descriptorIndex := 21, attributes := #[] }] 32 2 #[] #[{ accessFlags := 26, nameIndex := 55, descriptorIndex := 27, attributes := #[] }, { accessFlags := 18, nameIndex := 26, descriptorIndex := 27, attributes := #[] }, { accessFlags := 2, nameIndex := 33, descriptorIndex := 34, attributes := #[] }, { accessFlags := 2, nameIndex := 38, descriptorIndex := 39, attributes := #[] }, { accessFlags := 2, nameIndex := 42, descriptorIndex := 34, attributes := #[] }])
  fields := #[{ name := "FIRST_LENGTH", type := .int, accessFlags := 26, slot := 0, constantValue := 0 }, { name := "limit", type := .int, accessFlags := 18, slot := 0, constantValue := 0 }, { name := "vertices", type := (.array .int), accessFlags := 2, slot := 1, constantValue := 0 }, { name := "lists", type := (.array (.array .int)), accessFlags := 2, slot := 2, constantValue := 0 }, { name := "depths", type := (.array .int), accessFlags := 2, slot := 3, constantValue := 0 }]
  methods := #[k2m0, k2m1, k2m2, k2m3, k2m4]
  instanceTypes := #[.int, (.array .int), (.array (.array .int)), (.array .int)]
  staticTypes := #[.int]
  resolved := Array.replicate 70 none
  statics := none }

def pool3 : Array CpInfo := pool [(1, .class_ 2), (0, u "java/lang/Math"), (1, .class_ 6), (1, u "java/lang/Object"), (0, u "<init>"), (0, u "()V"), (89, .class_ 100), (1, u "java/lang/Math$RandomNumberGeneratorHolder"), (20, u "(JJ)J"), (50, u "negativeZeroFloatBits"), (0, u "J"), (2, u "negativeZeroDoubleBits"), (21, u "max"), (2, u "min"), (43, u "$assertionsDisabled"), (0, u "Z"), (88, u "(II)I"), (2, u "twoToTheDoubleScaleDown"), (0, u "D"), (4, u "twoToTheDoubleScaleUp"), (9, u "E"), (3, u "PI"), (2, u "TAU"), (2, u "DEGREES_TO_RADIANS"), (0, u "RADIANS_TO_DEGREES")] 94

def k3m0 : Method := { name := "<init>", desc := "()V", sig := { parameters := [], returnType := none }, accessFlags := 2, code := none }
def k3c1 : Code := { maxStack := 4, maxLocals := 4, code := jdk_29_method_66_code, exceptionTable := #[], attributes := #[] }
def k3m1 : Method := { name := "max", desc := "(JJ)J", sig := { parameters := [.long, .long], returnType := some .long }, accessFlags := 9, code := some k3c1 }
def k3c2 : Code := { maxStack := 2, maxLocals := 2, code := jdk_29_method_69_code, exceptionTable := #[], attributes := #[] }
def k3m2 : Method := { name := "min", desc := "(II)I", sig := { parameters := [.int, .int], returnType := some .int }, accessFlags := 9, code := some k3c2 }
def k3c3 : Code := { maxStack := 4, maxLocals := 4, code := jdk_29_method_70_code, exceptionTable := #[], attributes := #[] }
def k3m3 : Method := { name := "min", desc := "(JJ)J", sig := { parameters := [.long, .long], returnType := some .long }, accessFlags := 9, code := some k3c3 }
/-- java/lang/Math -/
def k3 : Class := { plain "java/lang/Math" (some 0) with
  accessFlags := 49
  interfaces := #[]
  cf := some (fileOf pool3 1 #[.nestMembers #[98]] #[{ accessFlags := 2, nameIndex := 7, descriptorIndex := 8, attributes := #[] }, { accessFlags := 9, nameIndex := 198, descriptorIndex := 121, attributes := #[] }, { accessFlags := 9, nameIndex := 201, descriptorIndex := 335, attributes := #[] }, { accessFlags := 9, nameIndex := 201, descriptorIndex := 121, attributes := #[] }] 49 4 #[] #[{ accessFlags := 25, nameIndex := 354, descriptorIndex := 339, attributes := #[] }, { accessFlags := 25, nameIndex := 358, descriptorIndex := 339, attributes := #[] }, { accessFlags := 25, nameIndex := 361, descriptorIndex := 339, attributes := #[] }, { accessFlags := 26, nameIndex := 364, descriptorIndex := 339, attributes := #[] }, { accessFlags := 26, nameIndex := 365, descriptorIndex := 339, attributes := #[] }, { accessFlags := 26, nameIndex := 172, descriptorIndex := 173, attributes := #[] }, { accessFlags := 26, nameIndex := 176, descriptorIndex := 173, attributes := #[] }, { accessFlags := 8, nameIndex := 344, descriptorIndex := 339, attributes := #[] }, { accessFlags := 8, nameIndex := 338, descriptorIndex := 339, attributes := #[] }, { accessFlags := 4120, nameIndex := 245, descriptorIndex := 246, attributes := #[] }])
  fields := #[{ name := "E", type := .double, accessFlags := 25, slot := 0, constantValue := 0 }, { name := "PI", type := .double, accessFlags := 25, slot := 1, constantValue := 0 }, { name := "TAU", type := .double, accessFlags := 25, slot := 2, constantValue := 0 }, { name := "DEGREES_TO_RADIANS", type := .double, accessFlags := 26, slot := 3, constantValue := 0 }, { name := "RADIANS_TO_DEGREES", type := .double, accessFlags := 26, slot := 4, constantValue := 0 }, { name := "negativeZeroFloatBits", type := .long, accessFlags := 26, slot := 5, constantValue := 0 }, { name := "negativeZeroDoubleBits", type := .long, accessFlags := 26, slot := 6, constantValue := 0 }, { name := "twoToTheDoubleScaleUp", type := .double, accessFlags := 8, slot := 7, constantValue := 0 }, { name := "twoToTheDoubleScaleDown", type := .double, accessFlags := 8, slot := 8, constantValue := 0 }, { name := "$assertionsDisabled", type := .boolean, accessFlags := 4120, slot := 9, constantValue := 0 }]
  methods := #[k3m0, k3m1, k3m2, k3m3]
  instanceTypes := #[]
  staticTypes := #[.double, .double, .double, .double, .double, .long, .long, .double, .double, .boolean]
  resolved := Array.replicate 460 none
  statics := none }

def pool4 : Array CpInfo := pool [(1, .class_ 2), (0, u "java/io/Serializable"), (0, .class_ 4), (0, u "java/lang/Object")] 2

/-- java/io/Serializable -/
def k4 : Class := { plain "java/io/Serializable" (some 0) with
  accessFlags := 1537
  interfaces := #[]
  cf := some (fileOf pool4 1 #[] #[] 1537 3 #[] #[])
  fields := #[]
  methods := #[]
  instanceTypes := #[]
  staticTypes := #[]
  resolved := Array.replicate 7 none
  statics := none }

def pool5 : Array CpInfo := pool [(2, .class_ 4), (1, u "java/lang/Object"), (0, u "<init>"), (0, u "()V"), (1, .class_ 10), (1, u "java/lang/Number"), (2, .class_ 14), (0, u "java/io/Serializable"), (0, u "serialVersionUID"), (0, u "J")] 20

def k5m0 : Method := { name := "<init>", desc := "()V", sig := { parameters := [], returnType := none }, accessFlags := 1, code := none }
/-- java/lang/Number -/
def k5 : Class := { plain "java/lang/Number" (some 0) with
  accessFlags := 1057
  interfaces := #[4]
  cf := some (fileOf pool5 8 #[] #[{ accessFlags := 1, nameIndex := 5, descriptorIndex := 6, attributes := #[] }] 1057 2 #[13] #[{ accessFlags := 26, nameIndex := 15, descriptorIndex := 16, attributes := #[] }])
  fields := #[{ name := "serialVersionUID", type := .long, accessFlags := 26, slot := 0, constantValue := 0 }]
  methods := #[k5m0]
  instanceTypes := #[]
  staticTypes := #[.long]
  resolved := Array.replicate 37 none
  statics := none }

def pool6 : Array CpInfo := pool [(1, .class_ 2), (0, u "java/lang/Comparable"), (0, .class_ 4), (0, u "java/lang/Object")] 7

/-- java/lang/Comparable -/
def k6 : Class := { plain "java/lang/Comparable" (some 0) with
  accessFlags := 1537
  interfaces := #[]
  cf := some (fileOf pool6 1 #[] #[] 1537 3 #[] #[])
  fields := #[]
  methods := #[]
  instanceTypes := #[]
  staticTypes := #[]
  resolved := Array.replicate 12 none
  statics := none }

def pool7 : Array CpInfo := pool [(1, .class_ 2), (0, u "java/lang/constant/Constable"), (0, .class_ 4), (0, u "java/lang/Object")] 6

/-- java/lang/constant/Constable -/
def k7 : Class := { plain "java/lang/constant/Constable" (some 0) with
  accessFlags := 1537
  interfaces := #[]
  cf := some (fileOf pool7 1 #[] #[] 1537 3 #[] #[])
  fields := #[]
  methods := #[]
  instanceTypes := #[]
  staticTypes := #[]
  resolved := Array.replicate 11 none
  statics := none }

def pool8 : Array CpInfo := pool [(1, .class_ 2), (0, u "java/lang/constant/ConstantDesc"), (0, .class_ 4), (0, u "java/lang/Object")] 32

/-- java/lang/constant/ConstantDesc -/
def k8 : Class := { plain "java/lang/constant/ConstantDesc" (some 0) with
  accessFlags := 1537
  interfaces := #[]
  cf := some (fileOf pool8 1 #[] #[] 1537 3 #[] #[])
  fields := #[]
  methods := #[]
  instanceTypes := #[]
  staticTypes := #[]
  resolved := Array.replicate 37 none
  statics := none }

def pool9 : Array CpInfo := pool [(1, .class_ 2), (0, u "java/lang/Integer"), (16, u "digits"), (0, u "[C"), (30, .methodref 1 52), (0, .nameAndType 53 54), (0, u "numberOfLeadingZeros"), (0, u "(I)I"), (30, u "DigitOnes"), (0, u "[B"), (2, u "DigitTens"), (37, .integer 2147483648), (61, .class_ 190), (0, u "java/lang/Integer$IntegerCache"), (3, u "I"), (8, .class_ 204), (0, u "java/lang/Number"), (2, u "value"), (56, .integer 65536), (37, u "TYPE"), (0, u "Ljava/lang/Class;"), (0, .class_ 305), (0, u "java/lang/Comparable"), (0, .class_ 307), (0, u "java/lang/constant/Constable"), (0, .class_ 309), (0, u "java/lang/constant/ConstantDesc"), (0, u "MIN_VALUE"), (1, u "MAX_VALUE"), (3, u "SIZE"), (1, u "BYTES"), (1, u "serialVersionUID"), (0, u "J"), (81, u "highestOneBit")] 49

def k9c0 : Code := { maxStack := 3, maxLocals := 1, code := jdk_33_method_45_code, exceptionTable := #[], attributes := #[] }
def k9m0 : Method := { name := "highestOneBit", desc := "(I)I", sig := { parameters := [.int], returnType := some .int }, accessFlags := 9, code := some k9c0 }
def k9c1 : Code := { maxStack := 3, maxLocals := 2, code := jdk_33_method_47_code, exceptionTable := #[], attributes := #[] }
def k9m1 : Method := { name := "numberOfLeadingZeros", desc := "(I)I", sig := { parameters := [.int], returnType := some .int }, accessFlags := 9, code := some k9c1 }
/-- java/lang/Integer -/
def k9 : Class := { plain "java/lang/Integer" (some 5) with
  accessFlags := 49
  interfaces := #[6, 7, 8]
  cf := some (fileOf pool9 1 #[.nestMembers #[189]] #[{ accessFlags := 9, nameIndex := 403, descriptorIndex := 54, attributes := #[] }, { accessFlags := 9, nameIndex := 53, descriptorIndex := 54, attributes := #[] }] 49 203 #[304, 306, 308] #[{ accessFlags := 25, nameIndex := 310, descriptorIndex := 194, attributes := #[] }, { accessFlags := 25, nameIndex := 312, descriptorIndex := 194, attributes := #[] }, { accessFlags := 25, nameIndex := 302, descriptorIndex := 303, attributes := #[] }, { accessFlags := 24, nameIndex := 19, descriptorIndex := 20, attributes := #[] }, { accessFlags := 24, nameIndex := 89, descriptorIndex := 86, attributes := #[] }, { accessFlags := 24, nameIndex := 85, descriptorIndex := 86, attributes := #[] }, { accessFlags := 18, nameIndex := 207, descriptorIndex := 194, attributes := #[] }, { accessFlags := 25, nameIndex := 316, descriptorIndex := 194, attributes := #[] }, { accessFlags := 25, nameIndex := 318, descriptorIndex := 194, attributes := #[] }, { accessFlags := 26, nameIndex := 320, descriptorIndex := 321, attributes := #[] }])
  fields := #[{ name := "MIN_VALUE", type := .int, accessFlags := 25, slot := 0, constantValue := 0 }, { name := "MAX_VALUE", type := .int, accessFlags := 25, slot := 1, constantValue := 0 }, { name := "TYPE", type := (.object "java/lang/Class"), accessFlags := 25, slot := 2, constantValue := 0 }, { name := "digits", type := (.array .char), accessFlags := 24, slot := 3, constantValue := 0 }, { name := "DigitTens", type := (.array .byte), accessFlags := 24, slot := 4, constantValue := 0 }, { name := "DigitOnes", type := (.array .byte), accessFlags := 24, slot := 5, constantValue := 0 }, { name := "value", type := .int, accessFlags := 18, slot := 0, constantValue := 0 }, { name := "SIZE", type := .int, accessFlags := 25, slot := 6, constantValue := 0 }, { name := "BYTES", type := .int, accessFlags := 25, slot := 7, constantValue := 0 }, { name := "serialVersionUID", type := .long, accessFlags := 26, slot := 8, constantValue := 0 }]
  methods := #[k9m0, k9m1]
  instanceTypes := #[.int]
  staticTypes := #[.int, .int, (.object "java/lang/Class"), (.array .char), (.array .byte), (.array .byte), .int, .int, .long]
  resolved := Array.replicate 453 none
  statics := none }

def pool10 : Array CpInfo := pool [(2, .class_ 4), (1, u "java/lang/Object"), (0, u "<init>"), (0, u "()V"), (7, .class_ 16), (1, u "java/util/Arrays"), (57, .class_ 76), (1, u "java/util/Arrays$NaturalOrder"), (36, .class_ 115), (1, u "java/util/Arrays$LegacyMergeSort"), (1, u "Z"), (257, .class_ 376), (0, u "java/util/Arrays$ArrayList"), (68, u "$assertionsDisabled"), (269, u "MIN_ARRAY_SORT_GRAN"), (0, u "I"), (2, u "INSERTIONSORT_THRESHOLD"), (120, u "fill"), (4, u "([II)V"), (129, .class_ 976), (0, u "java/util/Arrays$ArrayItr")] 52

def k10m0 : Method := { name := "<init>", desc := "()V", sig := { parameters := [], returnType := none }, accessFlags := 2, code := none }
def k10c1 : Code := { maxStack := 3, maxLocals := 4, code := jdk_65_method_103_code, exceptionTable := #[], attributes := #[] }
def k10m1 : Method := { name := "fill", desc := "([II)V", sig := { parameters := [(.array .int), .int], returnType := none }, accessFlags := 9, code := some k10c1 }
/-- java/util/Arrays -/
def k10 : Class := { plain "java/util/Arrays" (some 0) with
  accessFlags := 49
  interfaces := #[]
  cf := some (fileOf pool10 14 #[.nestMembers #[975, 375, 113, 74]] #[{ accessFlags := 2, nameIndex := 5, descriptorIndex := 6, attributes := #[] }, { accessFlags := 9, nameIndex := 840, descriptorIndex := 845, attributes := #[] }] 49 2 #[] #[{ accessFlags := 26, nameIndex := 715, descriptorIndex := 716, attributes := #[] }, { accessFlags := 26, nameIndex := 719, descriptorIndex := 716, attributes := #[] }, { accessFlags := 4120, nameIndex := 445, descriptorIndex := 117, attributes := #[] }])
  fields := #[{ name := "MIN_ARRAY_SORT_GRAN", type := .int, accessFlags := 26, slot := 0, constantValue := 0 }, { name := "INSERTIONSORT_THRESHOLD", type := .int, accessFlags := 26, slot := 1, constantValue := 0 }, { name := "$assertionsDisabled", type := .boolean, accessFlags := 4120, slot := 2, constantValue := 0 }]
  methods := #[k10m0, k10m1]
  instanceTypes := #[]
  staticTypes := #[.int, .int, .boolean]
  resolved := Array.replicate 1029 none
  statics := none }

def pool11 : Array CpInfo := pool [(1, u "java/lang/Cloneable"), (0, .class_ 1), (0, u "java/lang/Object"), (0, .class_ 3)] 3

/-- java/lang/Cloneable -/
def k11 : Class := { plain "java/lang/Cloneable" (some 0) with
  accessFlags := 1537
  interfaces := #[]
  cf := some (fileOf pool11 2 #[] #[] 1537 4 #[] #[])
  fields := #[]
  methods := #[]
  instanceTypes := #[]
  staticTypes := #[]
  resolved := Array.replicate 8 none
  statics := none }

/-- the primitive byte -/
def k12 : Class := { plain "byte" none with kind := .primitive 'B', accessFlags := 0x411 }
/-- [B -/
def k13 : Class := { plain "[B" (some 0) with kind := .array 12 .byte, interfaces := #[11, 4], accessFlags := 1041 }

/-- the primitive int -/
def k14 : Class := { plain "int" none with kind := .primitive 'I', accessFlags := 0x411 }
/-- [I -/
def k15 : Class := { plain "[I" (some 0) with kind := .array 14 .int, interfaces := #[11, 4], accessFlags := 1041 }
/-- [[I -/
def k16 : Class := { plain "[[I" (some 0) with kind := .array 15 (.array .int), interfaces := #[11, 4], accessFlags := 1041 }

def heap : Heap := #[]
def classes : Array Class := #[k0, k1, k2, k3, k4, k5, k6, k7, k8, k9, k10, k11, k12, k13, k14, k15, k16]
def interned : List (Array UInt16 × Addr) := []
def slotsUsed : Nat := 0
def theMethod : MethodId := ⟨1, 1⟩
def args0 : Array Value := #[.int 5, .int 6, .int 3, .int 2, .int 1, .int 4]
def aboutOver (below : List Frame) : State where
  vm := { classes := classes, interned := interned.toArray }
  heap := heap
  slotsUsed := slotsUsed
  threads := #[{ frames := .invoking theMethod args0 :: below }]
def below0 : List Frame := [.native { method := ⟨0, 0⟩, args := #[] }]
def about1 : State := aboutOver below0
def p0 : Program := .bare "" "" ""
def e0 : Env := launch0.env 0 0 0
theorem w_frames : about1.frames = Frame.invoking theMethod args0 :: below0 := rfl
set_option maxRecDepth 65536 in
theorem w_args : argsFit about1.vm theMethod args0 = true := by decide +kernel
set_option maxRecDepth 65536 in
theorem w_heap : heapFits about1 = true := by decide +kernel
set_option maxRecDepth 65536 in
theorem w_runnable : about1.curStatus? = some .runnable := by decide +kernel
set_option maxRecDepth 65536 in
theorem w_alone : about1.alone = true := by decide +kernel
set_option maxRecDepth 65536 in
theorem w_named : about1.methodNamed? x = some theMethod := by decide +kernel
set_option maxRecDepth 65536 in
theorem w_hears : about1.hears theMethod below0 = true := by decide +kernel
set_option maxRecDepth 65536 in
theorem w_ripe : about1.ripe theMethod args0 below0 = true := by decide +kernel
theorem w_running : about1.status = .running := rfl
set_option maxRecDepth 65536 in
theorem w_room : about1.hasRoom e0.platform room_1 = true :=
  launch0.hasRoom_least _ room_1 (by decide +kernel) (by decide +kernel) (by decide +kernel) (by decide +kernel) (by decide +kernel) (by decide +kernel)
theorem allAtoms_all (ts : List Jvm.Cond) (a : Array Jvm.Value) (st : Jvm.State) : (allAtoms ts).before a st = ts.all (fun c => c.before a st) := by
  induction ts with
  | nil => rfl
  | cons c t ih =>
    show (Jvm.Cond.and c (allAtoms t)).before a st = _
    rw [Jvm.Cond.before_and, ih, List.all_cons]
def words1 : List Jvm.Cond := Jvm.Cond.code x code maxLocals ret :: tables_1
/-- a 'code' word, met by the world's own term for the bytes: nothing is compared byte by byte -/
theorem code_word {y : MethodName} {bytes : ByteArray} {mx : Nat} {rt : Option FieldType} {a : Array Value} {s : State} {m : MethodId} {meth : Method} {c : Code} (h1 : s.methodNamed? y = some m) (h2 : s.vm.method? m = some meth) (h3 : meth.code = some c) (h4 : c.code = bytes)
    (h5 : (c.maxLocals == mx && c.exceptionTable.isEmpty && decide (c.maxStack ≤ mostOperands) && decide (meth.sig.returnType = rt) && !meth.locks && decide (parseMethodDescriptor y.desc = some meth.sig)) = true) : (Jvm.Cond.code y bytes mx rt).before a s = true := by
  simp only [Bool.and_eq_true, beq_iff_eq, Bool.not_eq_true', decide_eq_true_eq] at h5
  obtain ⟨⟨⟨⟨⟨g1, g2⟩, g3⟩, g4⟩, g5⟩, g6⟩ := h5
  simp [Cond.before, Cond.holds, Cond.value, h1, h2, h3, h4, g1, g2, g3, g4, g5, g6]
def isCode : Jvm.Cond → Bool
  | .code _ _ _ _ => true
  | _ => false
theorem all_split {L : List Jvm.Cond} {P : Jvm.Cond → Bool} (h1 : L.all (fun c => isCode c || P c) = true) (h2 : ∀ c ∈ L.filter isCode, P c = true) : L.all P = true := by
  refine List.all_eq_true.mpr fun c hc => ?_
  have h := List.all_eq_true.mp h1 c hc
  rcases Bool.eq_false_or_eq_true (isCode c) with hi | hi
  · exact h2 c (List.mem_filter.mpr ⟨hc, hi⟩)
  · simpa [hi] using h
set_option maxRecDepth 65536 in
theorem w_c0 : (Jvm.Cond.code x code maxLocals ret).before args0 about1 = true := code_word (m := ⟨1, 1⟩) (meth := k1m1) (c := k1c1) (by decide +kernel) rfl rfl rfl (by decide +kernel)
set_option maxRecDepth 65536 in
theorem w_c1 : (Jvm.Cond.code ({ cls := "com/example/tuck/tuck/ListWindow", name := "<init>", desc := "(II)V" } : Jvm.MethodName) prog_53_method_1_code (5 : Nat) (Option.none : Option Jvm.ClassFile.FieldType)).before args0 about1 = true := code_word (m := ⟨2, 0⟩) (meth := k2m0) (c := k2c0) (by decide +kernel) rfl rfl rfl (by decide +kernel)
set_option maxRecDepth 65536 in
theorem w_c2 : (Jvm.Cond.code ({ cls := "java/lang/Object", name := "<init>", desc := "()V" } : Jvm.MethodName) object_method_1_code (1 : Nat) (Option.none : Option Jvm.ClassFile.FieldType)).before args0 about1 = true := code_word (m := ⟨0, 0⟩) (meth := k0m0) (c := k0c0) (by decide +kernel) rfl rfl rfl (by decide +kernel)
set_option maxRecDepth 65536 in
theorem w_c3 : (Jvm.Cond.code ({ cls := "java/lang/Math", name := "min", desc := "(JJ)J" } : Jvm.MethodName) jdk_29_method_70_code (4 : Nat) (Option.some Jvm.ClassFile.FieldType.long)).before args0 about1 = true := code_word (m := ⟨3, 3⟩) (meth := k3m3) (c := k3c3) (by decide +kernel) rfl rfl rfl (by decide +kernel)
set_option maxRecDepth 65536 in
theorem w_c4 : (Jvm.Cond.code ({ cls := "java/lang/Math", name := "max", desc := "(JJ)J" } : Jvm.MethodName) jdk_29_method_66_code (4 : Nat) (Option.some Jvm.ClassFile.FieldType.long)).before args0 about1 = true := code_word (m := ⟨3, 1⟩) (meth := k3m1) (c := k3c1) (by decide +kernel) rfl rfl rfl (by decide +kernel)
set_option maxRecDepth 65536 in
theorem w_c5 : (Jvm.Cond.code ({ cls := "java/lang/Integer", name := "highestOneBit", desc := "(I)I" } : Jvm.MethodName) jdk_33_method_45_code (1 : Nat) (Option.some Jvm.ClassFile.FieldType.int)).before args0 about1 = true := code_word (m := ⟨9, 0⟩) (meth := k9m0) (c := k9c0) (by decide +kernel) rfl rfl rfl (by decide +kernel)
set_option maxRecDepth 65536 in
theorem w_c6 : (Jvm.Cond.code ({ cls := "java/lang/Integer", name := "numberOfLeadingZeros", desc := "(I)I" } : Jvm.MethodName) jdk_33_method_47_code (2 : Nat) (Option.some Jvm.ClassFile.FieldType.int)).before args0 about1 = true := code_word (m := ⟨9, 1⟩) (meth := k9m1) (c := k9c1) (by decide +kernel) rfl rfl rfl (by decide +kernel)
set_option maxRecDepth 65536 in
theorem w_c7 : (Jvm.Cond.code ({ cls := "java/lang/Math", name := "min", desc := "(II)I" } : Jvm.MethodName) jdk_29_method_69_code (2 : Nat) (Option.some Jvm.ClassFile.FieldType.int)).before args0 about1 = true := code_word (m := ⟨3, 2⟩) (meth := k3m2) (c := k3c2) (by decide +kernel) rfl rfl rfl (by decide +kernel)
set_option maxRecDepth 65536 in
theorem w_c8 : (Jvm.Cond.code ({ cls := "java/util/Arrays", name := "fill", desc := "([II)V" } : Jvm.MethodName) jdk_65_method_103_code (4 : Nat) (Option.none : Option Jvm.ClassFile.FieldType)).before args0 about1 = true := code_word (m := ⟨10, 1⟩) (meth := k10m1) (c := k10c1) (by decide +kernel) rfl rfl rfl (by decide +kernel)
set_option maxRecDepth 65536 in
theorem w_c9 : (Jvm.Cond.code ({ cls := "com/example/tuck/tuck/ListWindow", name := "keep", desc := "(I[II)V" } : Jvm.MethodName) prog_53_method_3_code (6 : Nat) (Option.none : Option Jvm.ClassFile.FieldType)).before args0 about1 = true := code_word (m := ⟨2, 2⟩) (meth := k2m2) (c := k2c2) (by decide +kernel) rfl rfl rfl (by decide +kernel)
set_option maxRecDepth 65536 in
theorem w_c10 : (Jvm.Cond.code ({ cls := "com/example/tuck/tuck/ListWindow", name := "depth", desc := "(I)I" } : Jvm.MethodName) prog_53_method_6_code (3 : Nat) (Option.some Jvm.ClassFile.FieldType.int)).before args0 about1 = true := code_word (m := ⟨2, 4⟩) (meth := k2m4) (c := k2c4) (by decide +kernel) rfl rfl rfl (by decide +kernel)
set_option maxRecDepth 65536 in
theorem w_c11 : (Jvm.Cond.code ({ cls := "com/example/tuck/tuck/ListWindow", name := "clear", desc := "()V" } : Jvm.MethodName) prog_53_method_2_code (1 : Nat) (Option.none : Option Jvm.ClassFile.FieldType)).before args0 about1 = true := code_word (m := ⟨2, 1⟩) (meth := k2m1) (c := k2c1) (by decide +kernel) rfl rfl rfl (by decide +kernel)
set_option maxRecDepth 65536 in
theorem w_c12 : (Jvm.Cond.code ({ cls := "com/example/tuck/tuck/ListWindow", name := "grow", desc := "()V" } : Jvm.MethodName) prog_53_method_4_code (7 : Nat) (Option.none : Option Jvm.ClassFile.FieldType)).before args0 about1 = true := code_word (m := ⟨2, 3⟩) (meth := k2m3) (c := k2c3) (by decide +kernel) rfl rfl rfl (by decide +kernel)
def codes1 : List Jvm.Cond := [Jvm.Cond.code x code maxLocals ret, Jvm.Cond.code ({ cls := "com/example/tuck/tuck/ListWindow", name := "<init>", desc := "(II)V" } : Jvm.MethodName) prog_53_method_1_code (5 : Nat) (Option.none : Option Jvm.ClassFile.FieldType), Jvm.Cond.code ({ cls := "java/lang/Object", name := "<init>", desc := "()V" } : Jvm.MethodName) object_method_1_code (1 : Nat) (Option.none : Option Jvm.ClassFile.FieldType), Jvm.Cond.code ({ cls := "java/lang/Math", name := "min", desc := "(JJ)J" } : Jvm.MethodName) jdk_29_method_70_code (4 : Nat) (Option.some Jvm.ClassFile.FieldType.long), Jvm.Cond.code ({ cls := "java/lang/Math", name := "max", desc := "(JJ)J" } : Jvm.MethodName) jdk_29_method_66_code (4 : Nat) (Option.some Jvm.ClassFile.FieldType.long), Jvm.Cond.code ({ cls := "java/lang/Integer", name := "highestOneBit", desc := "(I)I" } : Jvm.MethodName) jdk_33_method_45_code (1 : Nat) (Option.some Jvm.ClassFile.FieldType.int), Jvm.Cond.code ({ cls := "java/lang/Integer", name := "numberOfLeadingZeros", desc := "(I)I" } : Jvm.MethodName) jdk_33_method_47_code (2 : Nat) (Option.some Jvm.ClassFile.FieldType.int), Jvm.Cond.code ({ cls := "java/lang/Math", name := "min", desc := "(II)I" } : Jvm.MethodName) jdk_29_method_69_code (2 : Nat) (Option.some Jvm.ClassFile.FieldType.int), Jvm.Cond.code ({ cls := "java/util/Arrays", name := "fill", desc := "([II)V" } : Jvm.MethodName) jdk_65_method_103_code (4 : Nat) (Option.none : Option Jvm.ClassFile.FieldType), Jvm.Cond.code ({ cls := "com/example/tuck/tuck/ListWindow", name := "keep", desc := "(I[II)V" } : Jvm.MethodName) prog_53_method_3_code (6 : Nat) (Option.none : Option Jvm.ClassFile.FieldType), Jvm.Cond.code ({ cls := "com/example/tuck/tuck/ListWindow", name := "depth", desc := "(I)I" } : Jvm.MethodName) prog_53_method_6_code (3 : Nat) (Option.some Jvm.ClassFile.FieldType.int), Jvm.Cond.code ({ cls := "com/example/tuck/tuck/ListWindow", name := "clear", desc := "()V" } : Jvm.MethodName) prog_53_method_2_code (1 : Nat) (Option.none : Option Jvm.ClassFile.FieldType), Jvm.Cond.code ({ cls := "com/example/tuck/tuck/ListWindow", name := "grow", desc := "()V" } : Jvm.MethodName) prog_53_method_4_code (7 : Nat) (Option.none : Option Jvm.ClassFile.FieldType)]
set_option maxRecDepth 65536 in
theorem codes_eq : words1.filter isCode = codes1 := rfl
theorem w_codes : ∀ c ∈ words1.filter isCode, c.before args0 about1 = true := by
  rw [codes_eq]
  intro c hc
  simp only [codes1, List.mem_cons, List.not_mem_nil, or_false] at hc
  rcases hc with rfl | rfl | rfl | rfl | rfl | rfl | rfl | rfl | rfl | rfl | rfl | rfl | rfl
  · exact w_c0
  · exact w_c1
  · exact w_c2
  · exact w_c3
  · exact w_c4
  · exact w_c5
  · exact w_c6
  · exact w_c7
  · exact w_c8
  · exact w_c9
  · exact w_c10
  · exact w_c11
  · exact w_c12
set_option maxRecDepth 65536 in
theorem w_t1 : (words1.take 24).all (fun c => isCode c || c.before args0 about1) = true := by decide +kernel
set_option maxRecDepth 65536 in
theorem w_t2 : ((words1.drop 24).take 24).all (fun c => isCode c || c.before args0 about1) = true := by decide +kernel
set_option maxRecDepth 65536 in
theorem w_t3 : ((words1.drop 24).drop 24).all (fun c => isCode c || c.before args0 about1) = true := by decide +kernel
theorem w_tables : (allAtoms (Jvm.Cond.code x code maxLocals ret :: tables_1)).before args0 about1 = true := by
  rw [allAtoms_all]
  show words1.all (fun c => c.before args0 about1) = true
  refine all_split ?_ w_codes
  rw [← List.take_append_drop 24 words1, List.all_append, w_t1, ← List.take_append_drop 24 (words1.drop 24), List.all_append, w_t2, w_t3]
  rfl
set_option maxRecDepth 65536 in
theorem w_case : (Jvm.Cond.and given_1 narrow_1).before args0 about1 = true := by decide +kernel
theorem w_applies : (headSpec (Jvm.Cond.code x code maxLocals ret :: tables_1) room_1).applies x e0.platform about1 = true :=
  (Spec.applies_iff w_frames).mpr ⟨w_running, w_runnable, w_alone, w_named, w_hears, w_ripe, w_room, w_tables⟩
theorem atStart : AtStart classFile x code maxLocals ret World_1 tables_1 room_1 Calls_1 rest_1 Pre_1 launch0 p0 e0 about1 theMethod args0 below0 :=
  ⟨lists_1, trivial, launch0.admits_env _ _ _, launch0.least_env, fairChoices_fair.cas, fairChoices_fair.clock, w_frames, w_args, w_heap, w_applies, trivial, trivial, w_case⟩
end start1
theorem witness_1 : WitnessClaimed_1 := ⟨start1.p0, start1.e0, start1.about1, start1.theMethod, start1.args0, start1.below0, start1.atStart⟩
end Jvm.Pilot.@@N@@
