import JvmDerived
import JvmDerived.Pilot.@@N@@Statement
import JvmDerived.Pilot.@@N@@Code
set_option linter.unusedVariables false
set_option linter.unusedSimpArgs false
namespace Jvm.Pilot.@@N@@
open Jvm Jvm.ClassFile Sem Op Lib Jvm.Free Jvm.Stand Jvm.LawKit Jvm.RoadKit Bundle Jvm.Pilot.@@N@@.Jvm.D
def own_G (p : Program) (e : Env) (below : List Frame) (s : State) (Q : Option Value → Heap → List Loc → Prop) (k n : Nat) (A : State) : Prop :=
  ∃ s₂ o, Steps p.tables e below A s₂ ∧ s₂.status = .running ∧ Ended s₂ below o ∧ ∃ v L, o = .returned v ∧ Q v s₂.heap L ∧ FrameEnd s o s₂ L k n
theorem own_st {p : Program} {e : Env} {below : List Frame} {s : State} {Q : Option Value → Heap → List Loc → Prop} {k n : Nat} {A B : State} (f : ∀ t, Steps p.tables e below B t → Steps p.tables e below A t) (h : own_G p e below s Q k n B) : own_G p e below s Q k n A := by
  obtain ⟨t, o, h1, h2⟩ := h; exact ⟨t, o, f t h1, h2⟩
theorem own_tr {p : Program} {e : Env} {below : List Frame} {s : State} {Q : Option Value → Heap → List Loc → Prop} {k n : Nat} {A B : State} (f : Steps p.tables e below A B) (h : own_G p e below s Q k n B) : own_G p e below s Q k n A := own_st (fun _ => f.trans) h
theorem own_cast {p : Program} {e : Env} {below : List Frame} {s T : State} {Q : Option Value → Heap → List Loc → Prop} {k n : Nat} {g g' : JFrame} (q : g = g') (h : own_G p e below s Q k n (T.setTop g')) : own_G p e below s Q k n (T.setTop g) := q ▸ h
section OwnSteps
variable {p : Program} {l : Launch} {e : Env} {R : Room} {s : State} {m : MethodId} {args : Array Value} {below : List Frame} {meth : Method} {c : Code} {T : State} {locs : List Loc} {cells slots : Nat} {Q : Option Value → Heap → List Loc → Prop} {k n : Nat} {code : ByteArray} {pc : Nat} {Ls : Array Slot} {st : List Value} {Z : State} {a0 : Array Value} {h : Heap}
theorem own_retI (X : Stand p l e R s m args below meth c T locs cells slots) (hx : p.tables.exec = Jvm.exec) (hby : c.code = code) (hlk : meth.locks = false) (hret : meth.sig.returnType = some .int) {z : Int32} (hd : decode code pc = .ok (.ireturn, 1)) (hk : cells ≤ k) (hn : slots ≤ n) (hQ : Q (some (.int z)) T.heap locs) : own_G p e below s Q k n (T.setTop (mkF m pc Ls (.int z :: st))) := by
  obtain ⟨fs, hr, hrun, hended, hW, hsame⟩ := X.leave (v := some (.int z)) (fun h => by rw [hret] at h; cases h) hlk
  exact ⟨_, _, retOut X hx (t := .int) hret rfl (Or.inl ⟨rfl, Or.inl rfl, z, rfl⟩) (hb hby hd) hr, hrun, hended, _, _, rfl, hQ, ⟨_, rfl⟩, hW, hsame.mono hk hn⟩
theorem own_retJ (X : Stand p l e R s m args below meth c T locs cells slots) (hx : p.tables.exec = Jvm.exec) (hby : c.code = code) (hlk : meth.locks = false) (hret : meth.sig.returnType = some .long) {z : Int64} (hd : decode code pc = .ok (.lreturn, 1)) (hk : cells ≤ k) (hn : slots ≤ n) (hQ : Q (some (.long z)) T.heap locs) : own_G p e below s Q k n (T.setTop (mkF m pc Ls (.long z :: st))) := by
  obtain ⟨fs, hr, hrun, hended, hW, hsame⟩ := X.leave (v := some (.long z)) (fun h => by rw [hret] at h; cases h) hlk
  exact ⟨_, _, retOut X hx (t := .long) hret rfl (Or.inr (Or.inl ⟨rfl, rfl, z, rfl⟩)) (hb hby hd) hr, hrun, hended, _, _, rfl, hQ, ⟨_, rfl⟩, hW, hsame.mono hk hn⟩
theorem own_retD (X : Stand p l e R s m args below meth c T locs cells slots) (hx : p.tables.exec = Jvm.exec) (hby : c.code = code) (hlk : meth.locks = false) (hret : meth.sig.returnType = some .double) {z : UInt64} (hd : decode code pc = .ok (.dreturn, 1)) (hk : cells ≤ k) (hn : slots ≤ n) (hQ : Q (some (.double z)) T.heap locs) : own_G p e below s Q k n (T.setTop (mkF m pc Ls (.double z :: st))) := by
  obtain ⟨fs, hr, hrun, hended, hW, hsame⟩ := X.leave (v := some (.double z)) (fun h => by rw [hret] at h; cases h) hlk
  exact ⟨_, _, retOut X hx (t := .double) hret rfl (Or.inr (Or.inr (Or.inl ⟨rfl, rfl, z, rfl⟩))) (hb hby hd) hr, hrun, hended, _, _, rfl, hQ, ⟨_, rfl⟩, hW, hsame.mono hk hn⟩
theorem own_retA (X : Stand p l e R s m args below meth c T locs cells slots) (hx : p.tables.exec = Jvm.exec) (hby : c.code = code) (hlk : meth.locks = false) {ty : FieldType} (hret : meth.sig.returnType = some ty) (hty : ty.isReference = true) {z : Value} (hz : z.isRef = true) (hnz : narrow ty z = z) (hd : decode code pc = .ok (.areturn, 1)) (hk : cells ≤ k) (hn : slots ≤ n) (hQ : Q (some z) T.heap locs) : own_G p e below s Q k n (T.setTop (mkF m pc Ls (z :: st))) := by
  obtain ⟨fs, hr, hrun, hended, hW, hsame⟩ := X.leave (v := some z) (fun h => by rw [hret] at h; cases h) hlk
  exact ⟨_, _, retOut X hx (t := ty) hret hnz (Or.inr (Or.inr (Or.inr (Or.inr ⟨rfl, hty, hz⟩)))) (hb hby hd) hr, hrun, hended, _, _, rfl, hQ, ⟨_, rfl⟩, hW, hsame.mono hk hn⟩
theorem own_retN (X : Stand p l e R s m args below meth c T locs cells slots) (hx : p.tables.exec = Jvm.exec) (hby : c.code = code) (hlk : meth.locks = false) {t : FieldType} (hret : meth.sig.returnType = some t) (ht : t = .boolean ∨ t = .byte ∨ t = .char ∨ t = .short) {z : Int32} (hd : decode code pc = .ok (.ireturn, 1)) (hk : cells ≤ k) (hn : slots ≤ n) (hQ : Q (some (.int (nar t z))) T.heap locs) : own_G p e below s Q k n (T.setTop (mkF m pc Ls (.int z :: st))) := by
  obtain ⟨fs, hr, hrun, hended, hW, hsame⟩ := X.leave (v := some (.int (nar t z))) (fun h => by rw [hret] at h; cases h) hlk
  exact ⟨_, _, retN X hx (t := t) hret ht (hb hby hd) hr, hrun, hended, _, _, rfl, hQ, ⟨_, rfl⟩, hW, hsame.mono hk hn⟩
theorem own_ret0 (X : Stand p l e R s m args below meth c T locs cells slots) (hx : p.tables.exec = Jvm.exec) (hby : c.code = code) (hlk : meth.locks = false) (hret : meth.sig.returnType = none) (hd : decode code pc = .ok (.return_, 1)) (hk : cells ≤ k) (hn : slots ≤ n) (hQ : Q none T.heap locs) : own_G p e below s Q k n (T.setTop (mkF m pc Ls [])) := by
  obtain ⟨fs, hr, hrun, hended, hW, hsame⟩ := X.leave (v := none) (fun _ => rfl) hlk
  exact ⟨_, _, X.returnOut hx hret (hb hby hd) hr, hrun, hended, _, _, rfl, hQ, ⟨_, rfl⟩, hW, hsame.mono hk hn⟩
theorem own_iloadN (X : Stand p l e R s m args below meth c T locs cells slots) (hx : p.tables.exec = Jvm.exec) (hby : c.code = code) {kk : Fin 4} {v : Int32} (hd : decode code pc = .ok (.iload_n kk, 1)) (hl : Ls[kk.val]? = some (.val (.int v))) (h : own_G p e below s Q k n (T.setTop (mkF m (pc + 1) Ls (.int v :: st)))) : own_G p e below s Q k n (T.setTop (mkF m pc Ls st)) := own_st (fun _ => XS.iloadN X.here hx rfl (hb hby hd) hl) h
theorem own_iload (X : Stand p l e R s m args below meth c T locs cells slots) (hx : p.tables.exec = Jvm.exec) (hby : c.code = code) {kk : Nat} {v : Int32} (hd : decode code pc = .ok (.iload kk, 2)) (hl : Ls[kk]? = some (.val (.int v))) (h : own_G p e below s Q k n (T.setTop (mkF m (pc + 2) Ls (.int v :: st)))) : own_G p e below s Q k n (T.setTop (mkF m pc Ls st)) := own_st (fun _ => XS.iload X.here hx rfl (hb hby hd) hl) h
theorem own_lloadN (X : Stand p l e R s m args below meth c T locs cells slots) (hx : p.tables.exec = Jvm.exec) (hby : c.code = code) {kk : Fin 4} {v : Int64} (hd : decode code pc = .ok (.lload_n kk, 1)) (hl : Ls[kk.val]? = some (.val (.long v))) (h : own_G p e below s Q k n (T.setTop (mkF m (pc + 1) Ls (.long v :: st)))) : own_G p e below s Q k n (T.setTop (mkF m pc Ls st)) := own_st (fun _ => XS.lloadN X.here hx rfl (hb hby hd) hl) h
theorem own_lload (X : Stand p l e R s m args below meth c T locs cells slots) (hx : p.tables.exec = Jvm.exec) (hby : c.code = code) {kk : Nat} {v : Int64} (hd : decode code pc = .ok (.lload kk, 2)) (hl : Ls[kk]? = some (.val (.long v))) (h : own_G p e below s Q k n (T.setTop (mkF m (pc + 2) Ls (.long v :: st)))) : own_G p e below s Q k n (T.setTop (mkF m pc Ls st)) := own_st (fun _ => XS.lload X.here hx rfl (hb hby hd) hl) h
theorem own_dloadN (X : Stand p l e R s m args below meth c T locs cells slots) (hx : p.tables.exec = Jvm.exec) (hby : c.code = code) {kk : Fin 4} {v : UInt64} (hd : decode code pc = .ok (.dload_n kk, 1)) (hl : Ls[kk.val]? = some (.val (.double v))) (h : own_G p e below s Q k n (T.setTop (mkF m (pc + 1) Ls (.double v :: st)))) : own_G p e below s Q k n (T.setTop (mkF m pc Ls st)) := own_st (fun _ => XS.dloadN X.here hx rfl (hb hby hd) hl) h
theorem own_dload (X : Stand p l e R s m args below meth c T locs cells slots) (hx : p.tables.exec = Jvm.exec) (hby : c.code = code) {kk : Nat} {v : UInt64} (hd : decode code pc = .ok (.dload kk, 2)) (hl : Ls[kk]? = some (.val (.double v))) (h : own_G p e below s Q k n (T.setTop (mkF m (pc + 2) Ls (.double v :: st)))) : own_G p e below s Q k n (T.setTop (mkF m pc Ls st)) := own_st (fun _ => XS.dload X.here hx rfl (hb hby hd) hl) h
theorem own_aloadN (X : Stand p l e R s m args below meth c T locs cells slots) (hx : p.tables.exec = Jvm.exec) (hby : c.code = code) {kk : Fin 4} {v : Value} (hd : decode code pc = .ok (.aload_n kk, 1)) (hl : Ls[kk.val]? = some (.val v)) (hv : v.isRef = true) (h : own_G p e below s Q k n (T.setTop (mkF m (pc + 1) Ls (v :: st)))) : own_G p e below s Q k n (T.setTop (mkF m pc Ls st)) := own_st (fun _ => XS.aloadN X.here hx rfl (hb hby hd) hl hv) h
theorem own_aload (X : Stand p l e R s m args below meth c T locs cells slots) (hx : p.tables.exec = Jvm.exec) (hby : c.code = code) {kk : Nat} {v : Value} (hd : decode code pc = .ok (.aload kk, 2)) (hl : Ls[kk]? = some (.val v)) (hv : v.isRef = true) (h : own_G p e below s Q k n (T.setTop (mkF m (pc + 2) Ls (v :: st)))) : own_G p e below s Q k n (T.setTop (mkF m pc Ls st)) := own_st (fun _ => XS.aload X.here hx rfl (hb hby hd) hl hv) h
theorem own_istoreN (X : Stand p l e R s m args below meth c T locs cells slots) (hx : p.tables.exec = Jvm.exec) (hby : c.code = code) {kk : Fin 4} {v : Int32} {l' : Array Slot} (hd : decode code pc = .ok (.istore_n kk, 1)) (hl : storeLocals Ls kk.val (.int v) = some l') (h : own_G p e below s Q k n (T.setTop (mkF m (pc + 1) l' st))) : own_G p e below s Q k n (T.setTop (mkF m pc Ls (.int v :: st))) := own_st (fun _ => XS.istoreN X.here hx rfl (hb hby hd) rfl hl) h
theorem own_istore (X : Stand p l e R s m args below meth c T locs cells slots) (hx : p.tables.exec = Jvm.exec) (hby : c.code = code) {kk : Nat} {v : Int32} {l' : Array Slot} (hd : decode code pc = .ok (.istore kk, 2)) (hl : storeLocals Ls kk (.int v) = some l') (h : own_G p e below s Q k n (T.setTop (mkF m (pc + 2) l' st))) : own_G p e below s Q k n (T.setTop (mkF m pc Ls (.int v :: st))) := own_st (fun _ => XS.istore X.here hx rfl (hb hby hd) rfl hl) h
theorem own_lstoreN (X : Stand p l e R s m args below meth c T locs cells slots) (hx : p.tables.exec = Jvm.exec) (hby : c.code = code) {kk : Fin 4} {v : Int64} {l' : Array Slot} (hd : decode code pc = .ok (.lstore_n kk, 1)) (hl : storeLocals Ls kk.val (.long v) = some l') (h : own_G p e below s Q k n (T.setTop (mkF m (pc + 1) l' st))) : own_G p e below s Q k n (T.setTop (mkF m pc Ls (.long v :: st))) := own_st (fun _ => XS.lstoreN X.here hx rfl (hb hby hd) rfl hl) h
theorem own_lstore (X : Stand p l e R s m args below meth c T locs cells slots) (hx : p.tables.exec = Jvm.exec) (hby : c.code = code) {kk : Nat} {v : Int64} {l' : Array Slot} (hd : decode code pc = .ok (.lstore kk, 2)) (hl : storeLocals Ls kk (.long v) = some l') (h : own_G p e below s Q k n (T.setTop (mkF m (pc + 2) l' st))) : own_G p e below s Q k n (T.setTop (mkF m pc Ls (.long v :: st))) := own_st (fun _ => XS.lstore X.here hx rfl (hb hby hd) rfl hl) h
theorem own_dstoreN (X : Stand p l e R s m args below meth c T locs cells slots) (hx : p.tables.exec = Jvm.exec) (hby : c.code = code) {kk : Fin 4} {v : UInt64} {l' : Array Slot} (hd : decode code pc = .ok (.dstore_n kk, 1)) (hl : storeLocals Ls kk.val (.double v) = some l') (h : own_G p e below s Q k n (T.setTop (mkF m (pc + 1) l' st))) : own_G p e below s Q k n (T.setTop (mkF m pc Ls (.double v :: st))) := own_st (fun _ => XS.dstoreN X.here hx rfl (hb hby hd) rfl hl) h
theorem own_dstore (X : Stand p l e R s m args below meth c T locs cells slots) (hx : p.tables.exec = Jvm.exec) (hby : c.code = code) {kk : Nat} {v : UInt64} {l' : Array Slot} (hd : decode code pc = .ok (.dstore kk, 2)) (hl : storeLocals Ls kk (.double v) = some l') (h : own_G p e below s Q k n (T.setTop (mkF m (pc + 2) l' st))) : own_G p e below s Q k n (T.setTop (mkF m pc Ls (.double v :: st))) := own_st (fun _ => XS.dstore X.here hx rfl (hb hby hd) rfl hl) h
theorem own_astoreN (X : Stand p l e R s m args below meth c T locs cells slots) (hx : p.tables.exec = Jvm.exec) (hby : c.code = code) {kk : Fin 4} {v : Value} {l' : Array Slot} (hd : decode code pc = .ok (.astore_n kk, 1)) (hv : v.isRef = true) (hl : storeLocals Ls kk.val v = some l') (h : own_G p e below s Q k n (T.setTop (mkF m (pc + 1) l' st))) : own_G p e below s Q k n (T.setTop (mkF m pc Ls (v :: st))) := own_st (fun _ => XS.astoreN X.here hx rfl (hb hby hd) rfl hv hl) h
theorem own_astore (X : Stand p l e R s m args below meth c T locs cells slots) (hx : p.tables.exec = Jvm.exec) (hby : c.code = code) {kk : Nat} {v : Value} {l' : Array Slot} (hd : decode code pc = .ok (.astore kk, 2)) (hv : v.isRef = true) (hl : storeLocals Ls kk v = some l') (h : own_G p e below s Q k n (T.setTop (mkF m (pc + 2) l' st))) : own_G p e below s Q k n (T.setTop (mkF m pc Ls (v :: st))) := own_st (fun _ => XS.astore X.here hx rfl (hb hby hd) rfl hv hl) h
theorem own_iconst (X : Stand p l e R s m args below meth c T locs cells slots) (hx : p.tables.exec = Jvm.exec) (hby : c.code = code) {i : Int} (hd : decode code pc = .ok (.iconst i, 1))  (h : own_G p e below s Q k n (T.setTop (mkF m (pc + 1) Ls (.int (Int32.ofInt i) :: st)))) : own_G p e below s Q k n (T.setTop (mkF m pc Ls st)) := own_st (fun _ => XS.iconst X.here hx rfl (hb hby hd)) h
theorem own_bipush (X : Stand p l e R s m args below meth c T locs cells slots) (hx : p.tables.exec = Jvm.exec) (hby : c.code = code) {i : Int} (hd : decode code pc = .ok (.bipush i, 2))  (h : own_G p e below s Q k n (T.setTop (mkF m (pc + 2) Ls (.int (Int8.ofInt i).toInt32 :: st)))) : own_G p e below s Q k n (T.setTop (mkF m pc Ls st)) := own_st (fun _ => XS.bipush X.here hx rfl (hb hby hd)) h
theorem own_sipush (X : Stand p l e R s m args below meth c T locs cells slots) (hx : p.tables.exec = Jvm.exec) (hby : c.code = code) {i : Int} (hd : decode code pc = .ok (.sipush i, 3))  (h : own_G p e below s Q k n (T.setTop (mkF m (pc + 3) Ls (.int (Int16.ofInt i).toInt32 :: st)))) : own_G p e below s Q k n (T.setTop (mkF m pc Ls st)) := own_st (fun _ => XS.sipush X.here hx rfl (hb hby hd)) h
theorem own_lconst (X : Stand p l e R s m args below meth c T locs cells slots) (hx : p.tables.exec = Jvm.exec) (hby : c.code = code) {i : Fin 2} (hd : decode code pc = .ok (.lconst i, 1))  (h : own_G p e below s Q k n (T.setTop (mkF m (pc + 1) Ls (.long (Int64.ofNat i) :: st)))) : own_G p e below s Q k n (T.setTop (mkF m pc Ls st)) := own_st (fun _ => XS.lconst X.here hx rfl (hb hby hd)) h
theorem own_aconst_null (X : Stand p l e R s m args below meth c T locs cells slots) (hx : p.tables.exec = Jvm.exec) (hby : c.code = code)  (hd : decode code pc = .ok (.aconst_null, 1))  (h : own_G p e below s Q k n (T.setTop (mkF m (pc + 1) Ls (.null :: st)))) : own_G p e below s Q k n (T.setTop (mkF m pc Ls st)) := own_st (fun _ => XS.aconstNull X.here hx rfl (hb hby hd)) h
theorem own_iadd (X : Stand p l e R s m args below meth c T locs cells slots) (hx : p.tables.exec = Jvm.exec) (hby : c.code = code) {x y : Int32} (hd : decode code pc = .ok (.iadd, 1))  (h : own_G p e below s Q k n (T.setTop (mkF m (pc + 1) Ls (.int (x + y) :: st)))) : own_G p e below s Q k n (T.setTop (mkF m pc Ls (.int y :: .int x :: st))) := own_st (fun _ => XS.iadd X.here hx rfl (hb hby hd) rfl) h
theorem own_isub (X : Stand p l e R s m args below meth c T locs cells slots) (hx : p.tables.exec = Jvm.exec) (hby : c.code = code) {x y : Int32} (hd : decode code pc = .ok (.isub, 1))  (h : own_G p e below s Q k n (T.setTop (mkF m (pc + 1) Ls (.int (x - y) :: st)))) : own_G p e below s Q k n (T.setTop (mkF m pc Ls (.int y :: .int x :: st))) := own_st (fun _ => XS.isub X.here hx rfl (hb hby hd) rfl) h
theorem own_imul (X : Stand p l e R s m args below meth c T locs cells slots) (hx : p.tables.exec = Jvm.exec) (hby : c.code = code) {x y : Int32} (hd : decode code pc = .ok (.imul, 1))  (h : own_G p e below s Q k n (T.setTop (mkF m (pc + 1) Ls (.int (x * y) :: st)))) : own_G p e below s Q k n (T.setTop (mkF m pc Ls (.int y :: .int x :: st))) := own_st (fun _ => XS.imul X.here hx rfl (hb hby hd) rfl) h
theorem own_iand (X : Stand p l e R s m args below meth c T locs cells slots) (hx : p.tables.exec = Jvm.exec) (hby : c.code = code) {x y : Int32} (hd : decode code pc = .ok (.iand, 1))  (h : own_G p e below s Q k n (T.setTop (mkF m (pc + 1) Ls (.int (x &&& y) :: st)))) : own_G p e below s Q k n (T.setTop (mkF m pc Ls (.int y :: .int x :: st))) := own_st (fun _ => XS.iand X.here hx rfl (hb hby hd) rfl) h
theorem own_ior (X : Stand p l e R s m args below meth c T locs cells slots) (hx : p.tables.exec = Jvm.exec) (hby : c.code = code) {x y : Int32} (hd : decode code pc = .ok (.ior, 1))  (h : own_G p e below s Q k n (T.setTop (mkF m (pc + 1) Ls (.int (x ||| y) :: st)))) : own_G p e below s Q k n (T.setTop (mkF m pc Ls (.int y :: .int x :: st))) := own_st (fun _ => XS.ior X.here hx rfl (hb hby hd) rfl) h
theorem own_ixor (X : Stand p l e R s m args below meth c T locs cells slots) (hx : p.tables.exec = Jvm.exec) (hby : c.code = code) {x y : Int32} (hd : decode code pc = .ok (.ixor, 1))  (h : own_G p e below s Q k n (T.setTop (mkF m (pc + 1) Ls (.int (x ^^^ y) :: st)))) : own_G p e below s Q k n (T.setTop (mkF m pc Ls (.int y :: .int x :: st))) := own_st (fun _ => XS.ixor X.here hx rfl (hb hby hd) rfl) h
theorem own_ishl (X : Stand p l e R s m args below meth c T locs cells slots) (hx : p.tables.exec = Jvm.exec) (hby : c.code = code) {x y : Int32} (hd : decode code pc = .ok (.ishl, 1))  (h : own_G p e below s Q k n (T.setTop (mkF m (pc + 1) Ls (.int (x <<< (y &&& 31)) :: st)))) : own_G p e below s Q k n (T.setTop (mkF m pc Ls (.int y :: .int x :: st))) := own_st (fun _ => XS.ishl X.here hx rfl (hb hby hd) rfl) h
theorem own_ishr (X : Stand p l e R s m args below meth c T locs cells slots) (hx : p.tables.exec = Jvm.exec) (hby : c.code = code) {x y : Int32} (hd : decode code pc = .ok (.ishr, 1))  (h : own_G p e below s Q k n (T.setTop (mkF m (pc + 1) Ls (.int (x >>> (y &&& 31)) :: st)))) : own_G p e below s Q k n (T.setTop (mkF m pc Ls (.int y :: .int x :: st))) := own_st (fun _ => XS.ishr X.here hx rfl (hb hby hd) rfl) h
theorem own_iushr (X : Stand p l e R s m args below meth c T locs cells slots) (hx : p.tables.exec = Jvm.exec) (hby : c.code = code) {x y : Int32} (hd : decode code pc = .ok (.iushr, 1))  (h : own_G p e below s Q k n (T.setTop (mkF m (pc + 1) Ls (.int ((x.toUInt32 >>> (y &&& 31).toUInt32).toInt32) :: st)))) : own_G p e below s Q k n (T.setTop (mkF m pc Ls (.int y :: .int x :: st))) := own_st (fun _ => XS.iushr X.here hx rfl (hb hby hd) rfl) h
theorem own_ladd (X : Stand p l e R s m args below meth c T locs cells slots) (hx : p.tables.exec = Jvm.exec) (hby : c.code = code) {x y : Int64} (hd : decode code pc = .ok (.ladd, 1))  (h : own_G p e below s Q k n (T.setTop (mkF m (pc + 1) Ls (.long (x + y) :: st)))) : own_G p e below s Q k n (T.setTop (mkF m pc Ls (.long y :: .long x :: st))) := own_st (fun _ => XS.ladd X.here hx rfl (hb hby hd) rfl) h
theorem own_lsub (X : Stand p l e R s m args below meth c T locs cells slots) (hx : p.tables.exec = Jvm.exec) (hby : c.code = code) {x y : Int64} (hd : decode code pc = .ok (.lsub, 1))  (h : own_G p e below s Q k n (T.setTop (mkF m (pc + 1) Ls (.long (x - y) :: st)))) : own_G p e below s Q k n (T.setTop (mkF m pc Ls (.long y :: .long x :: st))) := own_st (fun _ => XS.lsub X.here hx rfl (hb hby hd) rfl) h
theorem own_lmul (X : Stand p l e R s m args below meth c T locs cells slots) (hx : p.tables.exec = Jvm.exec) (hby : c.code = code) {x y : Int64} (hd : decode code pc = .ok (.lmul, 1))  (h : own_G p e below s Q k n (T.setTop (mkF m (pc + 1) Ls (.long (x * y) :: st)))) : own_G p e below s Q k n (T.setTop (mkF m pc Ls (.long y :: .long x :: st))) := own_st (fun _ => XS.lmul X.here hx rfl (hb hby hd) rfl) h
theorem own_land (X : Stand p l e R s m args below meth c T locs cells slots) (hx : p.tables.exec = Jvm.exec) (hby : c.code = code) {x y : Int64} (hd : decode code pc = .ok (.land, 1))  (h : own_G p e below s Q k n (T.setTop (mkF m (pc + 1) Ls (.long (x &&& y) :: st)))) : own_G p e below s Q k n (T.setTop (mkF m pc Ls (.long y :: .long x :: st))) := own_st (fun _ => XS.land X.here hx rfl (hb hby hd) rfl) h
theorem own_lor (X : Stand p l e R s m args below meth c T locs cells slots) (hx : p.tables.exec = Jvm.exec) (hby : c.code = code) {x y : Int64} (hd : decode code pc = .ok (.lor, 1))  (h : own_G p e below s Q k n (T.setTop (mkF m (pc + 1) Ls (.long (x ||| y) :: st)))) : own_G p e below s Q k n (T.setTop (mkF m pc Ls (.long y :: .long x :: st))) := own_st (fun _ => XS.lor X.here hx rfl (hb hby hd) rfl) h
theorem own_lxor (X : Stand p l e R s m args below meth c T locs cells slots) (hx : p.tables.exec = Jvm.exec) (hby : c.code = code) {x y : Int64} (hd : decode code pc = .ok (.lxor, 1))  (h : own_G p e below s Q k n (T.setTop (mkF m (pc + 1) Ls (.long (x ^^^ y) :: st)))) : own_G p e below s Q k n (T.setTop (mkF m pc Ls (.long y :: .long x :: st))) := own_st (fun _ => XS.lxor X.here hx rfl (hb hby hd) rfl) h
theorem own_lshl (X : Stand p l e R s m args below meth c T locs cells slots) (hx : p.tables.exec = Jvm.exec) (hby : c.code = code) {x : Int64} {y : Int32} (hd : decode code pc = .ok (.lshl, 1))  (h : own_G p e below s Q k n (T.setTop (mkF m (pc + 1) Ls (.long (x <<< (y &&& 0x3f).toInt64) :: st)))) : own_G p e below s Q k n (T.setTop (mkF m pc Ls (.int y :: .long x :: st))) := own_st (fun _ => XS.lshl X.here hx rfl (hb hby hd) rfl) h
theorem own_lshr (X : Stand p l e R s m args below meth c T locs cells slots) (hx : p.tables.exec = Jvm.exec) (hby : c.code = code) {x : Int64} {y : Int32} (hd : decode code pc = .ok (.lshr, 1))  (h : own_G p e below s Q k n (T.setTop (mkF m (pc + 1) Ls (.long (x >>> (y &&& 0x3f).toInt64) :: st)))) : own_G p e below s Q k n (T.setTop (mkF m pc Ls (.int y :: .long x :: st))) := own_st (fun _ => XS.lshr X.here hx rfl (hb hby hd) rfl) h
theorem own_lushr (X : Stand p l e R s m args below meth c T locs cells slots) (hx : p.tables.exec = Jvm.exec) (hby : c.code = code) {x : Int64} {y : Int32} (hd : decode code pc = .ok (.lushr, 1))  (h : own_G p e below s Q k n (T.setTop (mkF m (pc + 1) Ls (.long ((x.toUInt64 >>> (y &&& 0x3f).toInt64.toUInt64).toInt64) :: st)))) : own_G p e below s Q k n (T.setTop (mkF m pc Ls (.int y :: .long x :: st))) := own_st (fun _ => XS.lushr X.here hx rfl (hb hby hd) rfl) h
theorem own_idiv (X : Stand p l e R s m args below meth c T locs cells slots) (hx : p.tables.exec = Jvm.exec) (hby : c.code = code) {x y : Int32} (hd : decode code pc = .ok (.idiv, 1)) (hy : y ≠ 0) (h : own_G p e below s Q k n (T.setTop (mkF m (pc + 1) Ls (.int (x / y) :: st)))) : own_G p e below s Q k n (T.setTop (mkF m pc Ls (.int y :: .int x :: st))) := own_st (fun _ => XS.idiv X.here hx rfl (hb hby hd) rfl hy) h
theorem own_irem (X : Stand p l e R s m args below meth c T locs cells slots) (hx : p.tables.exec = Jvm.exec) (hby : c.code = code) {x y : Int32} (hd : decode code pc = .ok (.irem, 1)) (hy : y ≠ 0) (h : own_G p e below s Q k n (T.setTop (mkF m (pc + 1) Ls (.int (x % y) :: st)))) : own_G p e below s Q k n (T.setTop (mkF m pc Ls (.int y :: .int x :: st))) := own_st (fun _ => iremM X hx rfl (hb hby hd) rfl hy) h
theorem own_ldiv (X : Stand p l e R s m args below meth c T locs cells slots) (hx : p.tables.exec = Jvm.exec) (hby : c.code = code) {x y : Int64} (hd : decode code pc = .ok (.ldiv, 1)) (hy : y ≠ 0) (h : own_G p e below s Q k n (T.setTop (mkF m (pc + 1) Ls (.long (x / y) :: st)))) : own_G p e below s Q k n (T.setTop (mkF m pc Ls (.long y :: .long x :: st))) := own_st (fun _ => XS.ldiv X.here hx rfl (hb hby hd) rfl hy) h
theorem own_lrem (X : Stand p l e R s m args below meth c T locs cells slots) (hx : p.tables.exec = Jvm.exec) (hby : c.code = code) {x y : Int64} (hd : decode code pc = .ok (.lrem, 1)) (hy : y ≠ 0) (h : own_G p e below s Q k n (T.setTop (mkF m (pc + 1) Ls (.long (x % y) :: st)))) : own_G p e below s Q k n (T.setTop (mkF m pc Ls (.long y :: .long x :: st))) := own_st (fun _ hr => XS.lrem X.here hx rfl (hb hby hd) rfl hy (by rw [lrem_mod]; exact hr)) h
theorem own_ineg (X : Stand p l e R s m args below meth c T locs cells slots) (hx : p.tables.exec = Jvm.exec) (hby : c.code = code) {x : Int32} (hd : decode code pc = .ok (.ineg, 1))  (h : own_G p e below s Q k n (T.setTop (mkF m (pc + 1) Ls (.int (-x) :: st)))) : own_G p e below s Q k n (T.setTop (mkF m pc Ls (.int x :: st))) := own_st (fun _ => XS.ineg X.here hx rfl (hb hby hd) rfl) h
theorem own_lneg (X : Stand p l e R s m args below meth c T locs cells slots) (hx : p.tables.exec = Jvm.exec) (hby : c.code = code) {x : Int64} (hd : decode code pc = .ok (.lneg, 1))  (h : own_G p e below s Q k n (T.setTop (mkF m (pc + 1) Ls (.long (-x) :: st)))) : own_G p e below s Q k n (T.setTop (mkF m pc Ls (.long x :: st))) := own_st (fun _ => XS.lneg X.here hx rfl (hb hby hd) rfl) h
theorem own_i2l (X : Stand p l e R s m args below meth c T locs cells slots) (hx : p.tables.exec = Jvm.exec) (hby : c.code = code) {x : Int32} (hd : decode code pc = .ok (.i2l, 1))  (h : own_G p e below s Q k n (T.setTop (mkF m (pc + 1) Ls (.long (x.toInt64) :: st)))) : own_G p e below s Q k n (T.setTop (mkF m pc Ls (.int x :: st))) := own_st (fun _ => XS.i2l X.here hx rfl (hb hby hd) rfl) h
theorem own_l2i (X : Stand p l e R s m args below meth c T locs cells slots) (hx : p.tables.exec = Jvm.exec) (hby : c.code = code) {x : Int64} (hd : decode code pc = .ok (.l2i, 1))  (h : own_G p e below s Q k n (T.setTop (mkF m (pc + 1) Ls (.int (x.toInt32) :: st)))) : own_G p e below s Q k n (T.setTop (mkF m pc Ls (.long x :: st))) := own_st (fun _ => XS.l2i X.here hx rfl (hb hby hd) rfl) h
theorem own_i2b (X : Stand p l e R s m args below meth c T locs cells slots) (hx : p.tables.exec = Jvm.exec) (hby : c.code = code) {x : Int32} (hd : decode code pc = .ok (.i2b, 1))  (h : own_G p e below s Q k n (T.setTop (mkF m (pc + 1) Ls (.int (x.toInt8.toInt32) :: st)))) : own_G p e below s Q k n (T.setTop (mkF m pc Ls (.int x :: st))) := own_st (fun _ => XS.i2b X.here hx rfl (hb hby hd) rfl) h
theorem own_i2s (X : Stand p l e R s m args below meth c T locs cells slots) (hx : p.tables.exec = Jvm.exec) (hby : c.code = code) {x : Int32} (hd : decode code pc = .ok (.i2s, 1))  (h : own_G p e below s Q k n (T.setTop (mkF m (pc + 1) Ls (.int (x.toInt16.toInt32) :: st)))) : own_G p e below s Q k n (T.setTop (mkF m pc Ls (.int x :: st))) := own_st (fun _ => XS.i2s X.here hx rfl (hb hby hd) rfl) h
theorem own_i2c (X : Stand p l e R s m args below meth c T locs cells slots) (hx : p.tables.exec = Jvm.exec) (hby : c.code = code) {x : Int32} (hd : decode code pc = .ok (.i2c, 1))  (h : own_G p e below s Q k n (T.setTop (mkF m (pc + 1) Ls (.int (x.toUInt32.toUInt16.toUInt32.toInt32) :: st)))) : own_G p e below s Q k n (T.setTop (mkF m pc Ls (.int x :: st))) := own_st (fun _ => XS.i2c X.here hx rfl (hb hby hd) rfl) h
theorem own_dup (X : Stand p l e R s m args below meth c T locs cells slots) (hx : p.tables.exec = Jvm.exec) (hby : c.code = code) {v : Value} (hd : decode code pc = .ok (.dup, 1)) (hc : v.category = 1) (h : own_G p e below s Q k n (T.setTop (mkF m (pc + 1) Ls (v :: v :: st)))) : own_G p e below s Q k n (T.setTop (mkF m pc Ls (v :: st))) := own_st (fun _ => XS.dup X.here hx rfl (hb hby hd) rfl hc) h
theorem own_dup_x1 (X : Stand p l e R s m args below meth c T locs cells slots) (hx : p.tables.exec = Jvm.exec) (hby : c.code = code) {v w : Value} (hd : decode code pc = .ok (.dup_x1, 1)) (hc : v.category = 1) (hc' : w.category = 1) (h : own_G p e below s Q k n (T.setTop (mkF m (pc + 1) Ls (v :: w :: v :: st)))) : own_G p e below s Q k n (T.setTop (mkF m pc Ls (v :: w :: st))) := own_st (fun _ => XS.dupX1 X.here hx rfl (hb hby hd) rfl hc hc') h
theorem own_dup2 (X : Stand p l e R s m args below meth c T locs cells slots) (hx : p.tables.exec = Jvm.exec) (hby : c.code = code) {v w : Value} (hd : decode code pc = .ok (.dup2, 1)) (hc : v.category = 1) (hc' : w.category = 1) (h : own_G p e below s Q k n (T.setTop (mkF m (pc + 1) Ls (v :: w :: v :: w :: st)))) : own_G p e below s Q k n (T.setTop (mkF m pc Ls (v :: w :: st))) := own_st (fun _ => Jvm.Free.XT.dup2 X.here hx rfl (hb hby hd) rfl hc hc') h
theorem own_dup2L (X : Stand p l e R s m args below meth c T locs cells slots) (hx : p.tables.exec = Jvm.exec) (hby : c.code = code) {v : Int64} (hd : decode code pc = .ok (.dup2, 1))  (h : own_G p e below s Q k n (T.setTop (mkF m (pc + 1) Ls (.long v :: .long v :: st)))) : own_G p e below s Q k n (T.setTop (mkF m pc Ls (.long v :: st))) := own_st (fun _ => Jvm.Free.XT.dup2L X.here hx rfl (hb hby hd) rfl) h
theorem own_pop (X : Stand p l e R s m args below meth c T locs cells slots) (hx : p.tables.exec = Jvm.exec) (hby : c.code = code) {v : Value} (hd : decode code pc = .ok (.pop, 1)) (hc : v.category = 1) (h : own_G p e below s Q k n (T.setTop (mkF m (pc + 1) Ls st))) : own_G p e below s Q k n (T.setTop (mkF m pc Ls (v :: st))) := own_st (fun _ => XS.pop X.here hx rfl (hb hby hd) rfl hc) h
theorem own_iinc (X : Stand p l e R s m args below meth c T locs cells slots) (hx : p.tables.exec = Jvm.exec) (hby : c.code = code) {kk : Nat} {cst : Int} {x : Int32} {l' : Array Slot} (hd : decode code pc = .ok (.iinc kk cst, 3)) (hl : Ls[kk]? = some (.val (.int x))) (hl' : storeLocals Ls kk (.int (x + Int32.ofInt cst)) = some l') (h : own_G p e below s Q k n (T.setTop (mkF m (pc + 3) l' st))) : own_G p e below s Q k n (T.setTop (mkF m pc Ls st)) := own_st (fun _ => XS.iinc X.here hx rfl (hb hby hd) hl hl') h
theorem own_goto (X : Stand p l e R s m args below meth c T locs cells slots) (hx : p.tables.exec = Jvm.exec) (hby : c.code = code) {o : Int} {pc' : Nat} (hd : decode code pc = .ok (.goto o, 3)) (ho : 0 ≤ (pc : Int) + o) (hp : ((pc : Int) + o).toNat = pc') (h : own_G p e below s Q k n (T.setTop (mkF m pc' Ls st))) : own_G p e below s Q k n (T.setTop (mkF m pc Ls st)) := own_st (fun _ => XS.goto X.here hx rfl rfl (hb hby hd) ho hp) h
theorem own_icmp_eq (X : Stand p l e R s m args below meth c T locs cells slots) (hx : p.tables.exec = Jvm.exec) (hby : c.code = code) {x y : Int32} {o : Int} {pc' : Nat} (hd : decode code pc = .ok (.if_icmp .eq o, 3)) (ho : 0 ≤ (pc : Int) + o) (hp : ((pc : Int) + o).toNat = pc') (hY : x = y → own_G p e below s Q k n (T.setTop (mkF m pc' Ls st))) (hN : ¬ x = y → own_G p e below s Q k n (T.setTop (mkF m (pc + 3) Ls st))) : own_G p e below s Q k n (T.setTop (mkF m pc Ls (.int y :: .int x :: st))) := by
  by_cases q : x = y
  · exact own_st (fun _ => XS.icmpYes X.here hx rfl rfl (hb hby hd) rfl (teq q).1 ho hp) (hY q)
  · exact own_st (fun _ => XS.icmpNo X.here hx rfl (hb hby hd) rfl (feq q).1) (hN q)
theorem own_if_eq (X : Stand p l e R s m args below meth c T locs cells slots) (hx : p.tables.exec = Jvm.exec) (hby : c.code = code) {x : Int32} {o : Int} {pc' : Nat} (hd : decode code pc = .ok (.ifCond .eq o, 3)) (ho : 0 ≤ (pc : Int) + o) (hp : ((pc : Int) + o).toNat = pc') (hY : x = 0 → own_G p e below s Q k n (T.setTop (mkF m pc' Ls st))) (hN : ¬ x = 0 → own_G p e below s Q k n (T.setTop (mkF m (pc + 3) Ls st))) : own_G p e below s Q k n (T.setTop (mkF m pc Ls (.int x :: st))) := by
  by_cases q : x = 0
  · exact own_st (fun _ => XS.ifYes X.here hx rfl rfl (hb hby hd) rfl ((if0 _ _).trans (teq q).1) ho hp) (hY q)
  · exact own_st (fun _ => XS.ifNo X.here hx rfl (hb hby hd) rfl ((if0 _ _).trans (feq q).1)) (hN q)
theorem own_lcmp_eq (X : Stand p l e R s m args below meth c T locs cells slots) (hx : p.tables.exec = Jvm.exec) (hby : c.code = code) {x y : Int64} {o : Int} {pc' : Nat} (hd : decode code pc = .ok (.lcmp, 1)) (hd2 : decode code (pc + 1) = .ok (.ifCond .eq o, 3)) (ho : 0 ≤ ((pc + 1 : Nat) : Int) + o) (hp : (((pc + 1 : Nat) : Int) + o).toNat = pc') (hY : x = y → own_G p e below s Q k n (T.setTop (mkF m pc' Ls st))) (hN : ¬ x = y → own_G p e below s Q k n (T.setTop (mkF m (pc + 4) Ls st))) : own_G p e below s Q k n (T.setTop (mkF m pc Ls (.long y :: .long x :: st))) := by
  refine own_st (fun _ => XS.lcmp X.here hx rfl (hb hby hd) rfl) ?_
  exact own_if_eq (x := lcmpW x y) X hx hby hd2 ho hp (fun q => hY ((lw_eq x y).mp q)) (fun q => hN (fun z => q ((lw_eq x y).mpr z)))
theorem own_icmp_ne (X : Stand p l e R s m args below meth c T locs cells slots) (hx : p.tables.exec = Jvm.exec) (hby : c.code = code) {x y : Int32} {o : Int} {pc' : Nat} (hd : decode code pc = .ok (.if_icmp .ne o, 3)) (ho : 0 ≤ (pc : Int) + o) (hp : ((pc : Int) + o).toNat = pc') (hY : ¬ x = y → own_G p e below s Q k n (T.setTop (mkF m pc' Ls st))) (hN : x = y → own_G p e below s Q k n (T.setTop (mkF m (pc + 3) Ls st))) : own_G p e below s Q k n (T.setTop (mkF m pc Ls (.int y :: .int x :: st))) := by
  by_cases q : x = y
  · exact own_st (fun _ => XS.icmpNo X.here hx rfl (hb hby hd) rfl (teq q).2) (hN q)
  · exact own_st (fun _ => XS.icmpYes X.here hx rfl rfl (hb hby hd) rfl (feq q).2 ho hp) (hY q)
theorem own_if_ne (X : Stand p l e R s m args below meth c T locs cells slots) (hx : p.tables.exec = Jvm.exec) (hby : c.code = code) {x : Int32} {o : Int} {pc' : Nat} (hd : decode code pc = .ok (.ifCond .ne o, 3)) (ho : 0 ≤ (pc : Int) + o) (hp : ((pc : Int) + o).toNat = pc') (hY : ¬ x = 0 → own_G p e below s Q k n (T.setTop (mkF m pc' Ls st))) (hN : x = 0 → own_G p e below s Q k n (T.setTop (mkF m (pc + 3) Ls st))) : own_G p e below s Q k n (T.setTop (mkF m pc Ls (.int x :: st))) := by
  by_cases q : x = 0
  · exact own_st (fun _ => XS.ifNo X.here hx rfl (hb hby hd) rfl ((if0 _ _).trans (teq q).2)) (hN q)
  · exact own_st (fun _ => XS.ifYes X.here hx rfl rfl (hb hby hd) rfl ((if0 _ _).trans (feq q).2) ho hp) (hY q)
theorem own_lcmp_ne (X : Stand p l e R s m args below meth c T locs cells slots) (hx : p.tables.exec = Jvm.exec) (hby : c.code = code) {x y : Int64} {o : Int} {pc' : Nat} (hd : decode code pc = .ok (.lcmp, 1)) (hd2 : decode code (pc + 1) = .ok (.ifCond .ne o, 3)) (ho : 0 ≤ ((pc + 1 : Nat) : Int) + o) (hp : (((pc + 1 : Nat) : Int) + o).toNat = pc') (hY : ¬ x = y → own_G p e below s Q k n (T.setTop (mkF m pc' Ls st))) (hN : x = y → own_G p e below s Q k n (T.setTop (mkF m (pc + 4) Ls st))) : own_G p e below s Q k n (T.setTop (mkF m pc Ls (.long y :: .long x :: st))) := by
  refine own_st (fun _ => XS.lcmp X.here hx rfl (hb hby hd) rfl) ?_
  exact own_if_ne (x := lcmpW x y) X hx hby hd2 ho hp (fun q => hY (fun z => q ((lw_eq x y).mpr z))) (fun q => hN ((lw_eq x y).mp q))
theorem own_icmp_lt (X : Stand p l e R s m args below meth c T locs cells slots) (hx : p.tables.exec = Jvm.exec) (hby : c.code = code) {x y : Int32} {o : Int} {pc' : Nat} (hd : decode code pc = .ok (.if_icmp .lt o, 3)) (ho : 0 ≤ (pc : Int) + o) (hp : ((pc : Int) + o).toNat = pc') (hY : x < y → own_G p e below s Q k n (T.setTop (mkF m pc' Ls st))) (hN : ¬ x < y → own_G p e below s Q k n (T.setTop (mkF m (pc + 3) Ls st))) : own_G p e below s Q k n (T.setTop (mkF m pc Ls (.int y :: .int x :: st))) := by
  by_cases q : x < y
  · exact own_st (fun _ => XS.icmpYes X.here hx rfl rfl (hb hby hd) rfl (tlt q).1 ho hp) (hY q)
  · exact own_st (fun _ => XS.icmpNo X.here hx rfl (hb hby hd) rfl (flt q).1) (hN q)
theorem own_if_lt (X : Stand p l e R s m args below meth c T locs cells slots) (hx : p.tables.exec = Jvm.exec) (hby : c.code = code) {x : Int32} {o : Int} {pc' : Nat} (hd : decode code pc = .ok (.ifCond .lt o, 3)) (ho : 0 ≤ (pc : Int) + o) (hp : ((pc : Int) + o).toNat = pc') (hY : x < 0 → own_G p e below s Q k n (T.setTop (mkF m pc' Ls st))) (hN : ¬ x < 0 → own_G p e below s Q k n (T.setTop (mkF m (pc + 3) Ls st))) : own_G p e below s Q k n (T.setTop (mkF m pc Ls (.int x :: st))) := by
  by_cases q : x < 0
  · exact own_st (fun _ => XS.ifYes X.here hx rfl rfl (hb hby hd) rfl ((if0 _ _).trans (tlt q).1) ho hp) (hY q)
  · exact own_st (fun _ => XS.ifNo X.here hx rfl (hb hby hd) rfl ((if0 _ _).trans (flt q).1)) (hN q)
theorem own_lcmp_lt (X : Stand p l e R s m args below meth c T locs cells slots) (hx : p.tables.exec = Jvm.exec) (hby : c.code = code) {x y : Int64} {o : Int} {pc' : Nat} (hd : decode code pc = .ok (.lcmp, 1)) (hd2 : decode code (pc + 1) = .ok (.ifCond .lt o, 3)) (ho : 0 ≤ ((pc + 1 : Nat) : Int) + o) (hp : (((pc + 1 : Nat) : Int) + o).toNat = pc') (hY : x < y → own_G p e below s Q k n (T.setTop (mkF m pc' Ls st))) (hN : ¬ x < y → own_G p e below s Q k n (T.setTop (mkF m (pc + 4) Ls st))) : own_G p e below s Q k n (T.setTop (mkF m pc Ls (.long y :: .long x :: st))) := by
  refine own_st (fun _ => XS.lcmp X.here hx rfl (hb hby hd) rfl) ?_
  exact own_if_lt (x := lcmpW x y) X hx hby hd2 ho hp (fun q => hY ((lw_lt x y).mp q)) (fun q => hN (fun z => q ((lw_lt x y).mpr z)))
theorem own_icmp_ge (X : Stand p l e R s m args below meth c T locs cells slots) (hx : p.tables.exec = Jvm.exec) (hby : c.code = code) {x y : Int32} {o : Int} {pc' : Nat} (hd : decode code pc = .ok (.if_icmp .ge o, 3)) (ho : 0 ≤ (pc : Int) + o) (hp : ((pc : Int) + o).toNat = pc') (hY : ¬ x < y → own_G p e below s Q k n (T.setTop (mkF m pc' Ls st))) (hN : x < y → own_G p e below s Q k n (T.setTop (mkF m (pc + 3) Ls st))) : own_G p e below s Q k n (T.setTop (mkF m pc Ls (.int y :: .int x :: st))) := by
  by_cases q : x < y
  · exact own_st (fun _ => XS.icmpNo X.here hx rfl (hb hby hd) rfl (tlt q).2.1) (hN q)
  · exact own_st (fun _ => XS.icmpYes X.here hx rfl rfl (hb hby hd) rfl (flt q).2.1 ho hp) (hY q)
theorem own_if_ge (X : Stand p l e R s m args below meth c T locs cells slots) (hx : p.tables.exec = Jvm.exec) (hby : c.code = code) {x : Int32} {o : Int} {pc' : Nat} (hd : decode code pc = .ok (.ifCond .ge o, 3)) (ho : 0 ≤ (pc : Int) + o) (hp : ((pc : Int) + o).toNat = pc') (hY : ¬ x < 0 → own_G p e below s Q k n (T.setTop (mkF m pc' Ls st))) (hN : x < 0 → own_G p e below s Q k n (T.setTop (mkF m (pc + 3) Ls st))) : own_G p e below s Q k n (T.setTop (mkF m pc Ls (.int x :: st))) := by
  by_cases q : x < 0
  · exact own_st (fun _ => XS.ifNo X.here hx rfl (hb hby hd) rfl ((if0 _ _).trans (tlt q).2.1)) (hN q)
  · exact own_st (fun _ => XS.ifYes X.here hx rfl rfl (hb hby hd) rfl ((if0 _ _).trans (flt q).2.1) ho hp) (hY q)
theorem own_lcmp_ge (X : Stand p l e R s m args below meth c T locs cells slots) (hx : p.tables.exec = Jvm.exec) (hby : c.code = code) {x y : Int64} {o : Int} {pc' : Nat} (hd : decode code pc = .ok (.lcmp, 1)) (hd2 : decode code (pc + 1) = .ok (.ifCond .ge o, 3)) (ho : 0 ≤ ((pc + 1 : Nat) : Int) + o) (hp : (((pc + 1 : Nat) : Int) + o).toNat = pc') (hY : ¬ x < y → own_G p e below s Q k n (T.setTop (mkF m pc' Ls st))) (hN : x < y → own_G p e below s Q k n (T.setTop (mkF m (pc + 4) Ls st))) : own_G p e below s Q k n (T.setTop (mkF m pc Ls (.long y :: .long x :: st))) := by
  refine own_st (fun _ => XS.lcmp X.here hx rfl (hb hby hd) rfl) ?_
  exact own_if_ge (x := lcmpW x y) X hx hby hd2 ho hp (fun q => hY (fun z => q ((lw_lt x y).mpr z))) (fun q => hN ((lw_lt x y).mp q))
theorem own_icmp_gt (X : Stand p l e R s m args below meth c T locs cells slots) (hx : p.tables.exec = Jvm.exec) (hby : c.code = code) {x y : Int32} {o : Int} {pc' : Nat} (hd : decode code pc = .ok (.if_icmp .gt o, 3)) (ho : 0 ≤ (pc : Int) + o) (hp : ((pc : Int) + o).toNat = pc') (hY : y < x → own_G p e below s Q k n (T.setTop (mkF m pc' Ls st))) (hN : ¬ y < x → own_G p e below s Q k n (T.setTop (mkF m (pc + 3) Ls st))) : own_G p e below s Q k n (T.setTop (mkF m pc Ls (.int y :: .int x :: st))) := by
  by_cases q : y < x
  · exact own_st (fun _ => XS.icmpYes X.here hx rfl rfl (hb hby hd) rfl (tlt q).2.2.1 ho hp) (hY q)
  · exact own_st (fun _ => XS.icmpNo X.here hx rfl (hb hby hd) rfl (flt q).2.2.1) (hN q)
theorem own_if_gt (X : Stand p l e R s m args below meth c T locs cells slots) (hx : p.tables.exec = Jvm.exec) (hby : c.code = code) {x : Int32} {o : Int} {pc' : Nat} (hd : decode code pc = .ok (.ifCond .gt o, 3)) (ho : 0 ≤ (pc : Int) + o) (hp : ((pc : Int) + o).toNat = pc') (hY : 0 < x → own_G p e below s Q k n (T.setTop (mkF m pc' Ls st))) (hN : ¬ 0 < x → own_G p e below s Q k n (T.setTop (mkF m (pc + 3) Ls st))) : own_G p e below s Q k n (T.setTop (mkF m pc Ls (.int x :: st))) := by
  by_cases q : 0 < x
  · exact own_st (fun _ => XS.ifYes X.here hx rfl rfl (hb hby hd) rfl ((if0 _ _).trans (tlt q).2.2.1) ho hp) (hY q)
  · exact own_st (fun _ => XS.ifNo X.here hx rfl (hb hby hd) rfl ((if0 _ _).trans (flt q).2.2.1)) (hN q)
theorem own_lcmp_gt (X : Stand p l e R s m args below meth c T locs cells slots) (hx : p.tables.exec = Jvm.exec) (hby : c.code = code) {x y : Int64} {o : Int} {pc' : Nat} (hd : decode code pc = .ok (.lcmp, 1)) (hd2 : decode code (pc + 1) = .ok (.ifCond .gt o, 3)) (ho : 0 ≤ ((pc + 1 : Nat) : Int) + o) (hp : (((pc + 1 : Nat) : Int) + o).toNat = pc') (hY : y < x → own_G p e below s Q k n (T.setTop (mkF m pc' Ls st))) (hN : ¬ y < x → own_G p e below s Q k n (T.setTop (mkF m (pc + 4) Ls st))) : own_G p e below s Q k n (T.setTop (mkF m pc Ls (.long y :: .long x :: st))) := by
  refine own_st (fun _ => XS.lcmp X.here hx rfl (hb hby hd) rfl) ?_
  exact own_if_gt (x := lcmpW x y) X hx hby hd2 ho hp (fun q => hY ((lw_gt x y).mp q)) (fun q => hN (fun z => q ((lw_gt x y).mpr z)))
theorem own_icmp_le (X : Stand p l e R s m args below meth c T locs cells slots) (hx : p.tables.exec = Jvm.exec) (hby : c.code = code) {x y : Int32} {o : Int} {pc' : Nat} (hd : decode code pc = .ok (.if_icmp .le o, 3)) (ho : 0 ≤ (pc : Int) + o) (hp : ((pc : Int) + o).toNat = pc') (hY : ¬ y < x → own_G p e below s Q k n (T.setTop (mkF m pc' Ls st))) (hN : y < x → own_G p e below s Q k n (T.setTop (mkF m (pc + 3) Ls st))) : own_G p e below s Q k n (T.setTop (mkF m pc Ls (.int y :: .int x :: st))) := by
  by_cases q : y < x
  · exact own_st (fun _ => XS.icmpNo X.here hx rfl (hb hby hd) rfl (tlt q).2.2.2) (hN q)
  · exact own_st (fun _ => XS.icmpYes X.here hx rfl rfl (hb hby hd) rfl (flt q).2.2.2 ho hp) (hY q)
theorem own_if_le (X : Stand p l e R s m args below meth c T locs cells slots) (hx : p.tables.exec = Jvm.exec) (hby : c.code = code) {x : Int32} {o : Int} {pc' : Nat} (hd : decode code pc = .ok (.ifCond .le o, 3)) (ho : 0 ≤ (pc : Int) + o) (hp : ((pc : Int) + o).toNat = pc') (hY : ¬ 0 < x → own_G p e below s Q k n (T.setTop (mkF m pc' Ls st))) (hN : 0 < x → own_G p e below s Q k n (T.setTop (mkF m (pc + 3) Ls st))) : own_G p e below s Q k n (T.setTop (mkF m pc Ls (.int x :: st))) := by
  by_cases q : 0 < x
  · exact own_st (fun _ => XS.ifNo X.here hx rfl (hb hby hd) rfl ((if0 _ _).trans (tlt q).2.2.2)) (hN q)
  · exact own_st (fun _ => XS.ifYes X.here hx rfl rfl (hb hby hd) rfl ((if0 _ _).trans (flt q).2.2.2) ho hp) (hY q)
theorem own_lcmp_le (X : Stand p l e R s m args below meth c T locs cells slots) (hx : p.tables.exec = Jvm.exec) (hby : c.code = code) {x y : Int64} {o : Int} {pc' : Nat} (hd : decode code pc = .ok (.lcmp, 1)) (hd2 : decode code (pc + 1) = .ok (.ifCond .le o, 3)) (ho : 0 ≤ ((pc + 1 : Nat) : Int) + o) (hp : (((pc + 1 : Nat) : Int) + o).toNat = pc') (hY : ¬ y < x → own_G p e below s Q k n (T.setTop (mkF m pc' Ls st))) (hN : y < x → own_G p e below s Q k n (T.setTop (mkF m (pc + 4) Ls st))) : own_G p e below s Q k n (T.setTop (mkF m pc Ls (.long y :: .long x :: st))) := by
  refine own_st (fun _ => XS.lcmp X.here hx rfl (hb hby hd) rfl) ?_
  exact own_if_le (x := lcmpW x y) X hx hby hd2 ho hp (fun q => hY (fun z => q ((lw_gt x y).mpr z))) (fun q => hN ((lw_gt x y).mp q))
theorem own_acmp_eq (X : Stand p l e R s m args below meth c T locs cells slots) (hx : p.tables.exec = Jvm.exec) (hby : c.code = code) {x y : Value} {o : Int} {pc' : Nat} (hx1 : x.isRef = true) (hy1 : y.isRef = true) (hd : decode code pc = .ok (.if_acmp .eq o, 3)) (ho : 0 ≤ (pc : Int) + o) (hp : ((pc : Int) + o).toNat = pc') (hY : x = y → own_G p e below s Q k n (T.setTop (mkF m pc' Ls st))) (hN : ¬ x = y → own_G p e below s Q k n (T.setTop (mkF m (pc + 3) Ls st))) : own_G p e below s Q k n (T.setTop (mkF m pc Ls (y :: x :: st))) := by
  by_cases q : x = y
  · exact own_st (fun _ => Jvm.Free.XT.acmpYes X.here hx rfl rfl (hb hby hd) rfl hx1 hy1 (decide_eq_true q) ho hp) (hY q)
  · exact own_st (fun _ => Jvm.Free.XT.acmpNo X.here hx rfl (hb hby hd) rfl hx1 hy1 (decide_eq_false q)) (hN q)
theorem own_acmp_ne (X : Stand p l e R s m args below meth c T locs cells slots) (hx : p.tables.exec = Jvm.exec) (hby : c.code = code) {x y : Value} {o : Int} {pc' : Nat} (hx1 : x.isRef = true) (hy1 : y.isRef = true) (hd : decode code pc = .ok (.if_acmp .ne o, 3)) (ho : 0 ≤ (pc : Int) + o) (hp : ((pc : Int) + o).toNat = pc') (hY : ¬ x = y → own_G p e below s Q k n (T.setTop (mkF m pc' Ls st))) (hN : x = y → own_G p e below s Q k n (T.setTop (mkF m (pc + 3) Ls st))) : own_G p e below s Q k n (T.setTop (mkF m pc Ls (y :: x :: st))) := by
  by_cases q : x = y
  · exact own_st (fun _ => Jvm.Free.XT.acmpNo X.here hx rfl (hb hby hd) rfl hx1 hy1 (decide_eq_false (fun z => z q))) (hN q)
  · exact own_st (fun _ => Jvm.Free.XT.acmpYes X.here hx rfl rfl (hb hby hd) rfl hx1 hy1 (decide_eq_true q) ho hp) (hY q)
theorem own_ifnullY (X : Stand p l e R s m args below meth c T locs cells slots) (hx : p.tables.exec = Jvm.exec) (hby : c.code = code) {o : Int} {pc' : Nat} (hd : decode code pc = .ok (.ifnull o, 3)) (ho : 0 ≤ (pc : Int) + o) (hp : ((pc : Int) + o).toNat = pc') (h : own_G p e below s Q k n (T.setTop (mkF m pc' Ls st))) : own_G p e below s Q k n (T.setTop (mkF m pc Ls (.null :: st))) := own_st (fun _ => XS.ifnullYes X.here hx rfl rfl (hb hby hd) rfl ho hp) h
theorem own_ifnullN (X : Stand p l e R s m args below meth c T locs cells slots) (hx : p.tables.exec = Jvm.exec) (hby : c.code = code) {o : Int} {b : Addr} (hd : decode code pc = .ok (.ifnull o, 3)) (h : own_G p e below s Q k n (T.setTop (mkF m (pc + 3) Ls st))) : own_G p e below s Q k n (T.setTop (mkF m pc Ls (.ref b :: st))) := own_st (fun _ => XS.ifnullNo X.here hx rfl (hb hby hd) rfl) h
theorem own_ifnonnullY (X : Stand p l e R s m args below meth c T locs cells slots) (hx : p.tables.exec = Jvm.exec) (hby : c.code = code) {o : Int} {b : Addr} {pc' : Nat} (hd : decode code pc = .ok (.ifnonnull o, 3)) (ho : 0 ≤ (pc : Int) + o) (hp : ((pc : Int) + o).toNat = pc') (h : own_G p e below s Q k n (T.setTop (mkF m pc' Ls st))) : own_G p e below s Q k n (T.setTop (mkF m pc Ls (.ref b :: st))) := own_st (fun _ => XS.ifnonnullYes X.here hx rfl rfl (hb hby hd) rfl ho hp) h
theorem own_ifnonnullN (X : Stand p l e R s m args below meth c T locs cells slots) (hx : p.tables.exec = Jvm.exec) (hby : c.code = code) {o : Int} (hd : decode code pc = .ok (.ifnonnull o, 3)) (h : own_G p e below s Q k n (T.setTop (mkF m (pc + 3) Ls st))) : own_G p e below s Q k n (T.setTop (mkF m pc Ls (.null :: st))) := own_st (fun _ => XS.ifnonnullNo X.here hx rfl (hb hby hd) rfl) h
theorem own_tswIn (X : Stand p l e R s m args below meth c T locs cells slots) (hx : p.tables.exec = Jvm.exec) (hby : c.code = code) {dflt low high : Int} {offs : Array Int} {len : Nat} {o : Int} {pc' : Nat} {i : Int32} (hd : decode code pc = .ok (.tableswitch dflt low high offs, len)) (hin : ¬ (i.toInt < low ∨ i.toInt > high)) (hoff : offs[(i.toInt - low).toNat]? = some o) (ho : 0 ≤ (pc : Int) + o) (hp : ((pc : Int) + o).toNat = pc') (h : own_G p e below s Q k n (T.setTop (mkF m pc' Ls st))) : own_G p e below s Q k n (T.setTop (mkF m pc Ls (.int i :: st))) := own_st (fun _ => XS.tswIn (g := mkF m pc Ls (.int i :: st)) (pc0 := pc) X.here hx rfl rfl (hb hby hd) rfl hin hoff ho hp) h
theorem own_ldcI (X : Stand p l e R s m args below meth c T locs cells slots) (hx : p.tables.exec = Jvm.exec) (hby : c.code = code) (hZ : Z.Warmed39 s.vm) {own : String} {i : Nat} {v : Int32} (hown : s.vm.findClass own = some m.cls) (w : (Cond.constant own i v).before a0 Z = true) (hd : decode code pc = .ok (.ldc i, 2)) (h : own_G p e below s Q k n (T.setTop (mkF m (pc + 2) Ls (.int v :: st)))) : own_G p e below s Q k n (T.setTop (mkF m pc Ls st)) := own_st (X.ldcInt hx hown (mvT hZ w) rfl (hb hby hd)) h
theorem own_ldcJ (X : Stand p l e R s m args below meth c T locs cells slots) (hx : p.tables.exec = Jvm.exec) (hby : c.code = code) (hZ : Z.Warmed39 s.vm) {own : String} {i : Nat} {v : Int64} (hown : s.vm.findClass own = some m.cls) (w : (Cond.constantLong own i v).before a0 Z = true) (hd : decode code pc = .ok (.ldc2_w i, 3)) (h : own_G p e below s Q k n (T.setTop (mkF m (pc + 3) Ls (.long v :: st)))) : own_G p e below s Q k n (T.setTop (mkF m pc Ls st)) := own_st (X.ldc2Long hx hown (mvT hZ w) rfl (hb hby hd)) h
theorem own_instNull (X : Stand p l e R s m args below meth c T locs cells slots) (hx : p.tables.exec = Jvm.exec) (hby : c.code = code) {i : Nat} (hd : decode code pc = .ok (.instanceof i, 3)) (h : own_G p e below s Q k n (T.setTop (mkF m (pc + 3) Ls (.int 0 :: st)))) : own_G p e below s Q k n (T.setTop (mkF m pc Ls (.null :: st))) := own_st (X.instanceofNull hx rfl rfl (hb hby hd)) h
theorem own_castNull (X : Stand p l e R s m args below meth c T locs cells slots) (hx : p.tables.exec = Jvm.exec) (hby : c.code = code) {i : Nat} (hd : decode code pc = .ok (.checkcast i, 3)) (h : own_G p e below s Q k n (T.setTop (mkF m (pc + 3) Ls (.null :: st)))) : own_G p e below s Q k n (T.setTop (mkF m pc Ls (.null :: st))) := own_st (X.checkcastNull hx rfl rfl (hb hby hd)) h
def own_Ar (Z : State) (h : Heap) (a : Addr) (ty : FieldType) (n : Nat) (f : Nat → Value) : Prop := ∃ c : Cell, Arr Z h a c ty ∧ c.slots.size = n ∧ n < 2 ^ 31 ∧ ∀ j, j < n → c.slots[j]? = some (f j)
def own_set (f : Nat → Value) (j : Nat) (v : Value) : Nat → Value := fun i => if i = j then v else f i
theorem own_set_same (f : Nat → Value) (j : Nat) (v : Value) : own_set f j v j = v := if_pos rfl
theorem own_set_ne (f : Nat → Value) {i j : Nat} (v : Value) (q : i ≠ j) : own_set f j v i = f i := if_neg q
theorem own_Ar.lt {a : Addr} {ty : FieldType} {N : Nat} {f : Nat → Value} (F : own_Ar Z h a ty N f) : a < h.size := by obtain ⟨c, A, -⟩ := F; exact A.lt
theorem own_Ar.small {a : Addr} {ty : FieldType} {N : Nat} {f : Nat → Value} (F : own_Ar Z h a ty N f) : N < 2 ^ 31 := by obtain ⟨c, -, -, q, -⟩ := F; exact q
theorem own_Ar.ext {h' : Heap} {a : Addr} {ty : FieldType} {N : Nat} {f : Nat → Value} (F : own_Ar Z h a ty N f) (E : Ext h h') : own_Ar Z h' a ty N f := by obtain ⟨c, A, r⟩ := F; exact ⟨c, A.ext E, r⟩
theorem own_Ar.other {h' : Heap} {a b : Addr} {sl : Nat} {v : Value} {ty : FieldType} {N : Nat} {f : Nat → Value} (F : own_Ar Z h b ty N f) (W : Wr h h' a sl v) (q : b ≠ a) : own_Ar Z h' b ty N f := by obtain ⟨c, A, r⟩ := F; exact ⟨c, A.other W q, r⟩
theorem own_Ar.keep {h' : Heap} {a : Addr} {ws : List Addr} {ty : FieldType} {N : Nat} {f : Nat → Value} (F : own_Ar Z h a ty N f) (K : Keep h h' ws) (q : a ∉ ws) : own_Ar Z h' a ty N f := by obtain ⟨c, A, r⟩ := F; exact ⟨c, ⟨K.2.1 a c A.1 q, A.2⟩, r⟩
theorem own_Ar.fn {a : Addr} {ty : FieldType} {N : Nat} {f g : Nat → Value} (F : own_Ar Z h a ty N f) (q : ∀ j, j < N → f j = g j) : own_Ar Z h a ty N g := by obtain ⟨c, A, r1, r2, r3⟩ := F; exact ⟨c, A, r1, r2, fun j hj => by rw [r3 j hj, q j hj]⟩
theorem own_Ar.store {h' : Heap} {a : Addr} {c : Cell} {ty : FieldType} {N j : Nat} {f : Nat → Value} {v : Value} (A : Arr Z h a c ty) (r1 : c.slots.size = N) (r2 : N < 2 ^ 31) (r3 : ∀ j, j < N → c.slots[j]? = some (f j)) (W : Wr h h' a j v) : own_Ar Z h' a ty N (own_set f j v) := by
  refine ⟨_, A.same W, by rw [sz_set]; exact r1, r2, fun i hi => ?_⟩
  by_cases e : i = j
  · subst e; rw [own_set_same]; simp [Cell.setSlot, r1, hi]
  · rw [own_set_ne _ _ e, ← r3 i hi]; exact Array.getElem?_setIfInBounds_ne (fun q => e q.symm)
theorem own_Ar.new {a : Addr} {ty : FieldType} {kc : ClassId} {z : Int32} (A : Arr Z h a (newA kc ty z) ty) (q : ¬ z < 0) : own_Ar Z h a ty z.toNatClampNeg (fun _ => defaultValue ty) :=
  ⟨_, A, sz_new _ _ _, (back32 q).2, fun j hj => by simp [newA, hj]⟩
theorem own_inb {N : Nat} {j : Int32} {i : Nat} (hj : j.toInt = i) (hi : i < N) : ¬ (j < 0 ∨ N ≤ j.toNatClampNeg) ∧ j.toNatClampNeg = i := by
  have q : j.toNatClampNeg = i := by simp only [Int32.toNatClampNeg, hj]; omega
  refine ⟨?_, q⟩
  rw [q]; simp only [Int32.lt_iff_toInt_lt, hj, Int32.reduceToInt]; omega
def own_Ov (Z : State) (h : Heap) (a : Addr) (C : String) : Prop := ∃ cell : Cell, h[a]? = some cell ∧ Ovr Z cell.cls C
theorem own_Ov.ext {h' : Heap} {a : Addr} {C : String} (F : own_Ov Z h a C) (E : Ext h h') : own_Ov Z h' a C := by obtain ⟨c, h1, h2⟩ := F; exact ⟨c, E.2 _ _ h1, h2⟩
theorem own_Ov.wr {h' : Heap} {a b : Addr} {sl : Nat} {v : Value} {C : String} (F : own_Ov Z h a C) (W : Wr h h' b sl v) : own_Ov Z h' a C := by obtain ⟨c, h1, h2⟩ := F; obtain ⟨c', e1, e2, -⟩ := wr_at W h1; exact ⟨c', e1, by rw [e2]; exact h2⟩
theorem own_Ov.keep {h' : Heap} {a : Addr} {ws : List Addr} {C : String} (F : own_Ov Z h a C) (K : Keep h h' ws) : own_Ov Z h' a C := by obtain ⟨c, h1, h2⟩ := F; obtain ⟨c', e1, e2, -⟩ := K.2.2 _ _ h1; exact ⟨c', e1, by rw [e2]; exact h2⟩
theorem own_sto {a y : Addr} {ty : FieldType} {N : Nat} {f : Nat → Value} {C : String} (F : own_Ar Z h a ty N f) (V : own_Ov Z h a C) (I : Ins Z h y C true) : Sto Z h a (.ref y) := by
  obtain ⟨c, A, -⟩ := F; obtain ⟨c', h1, h2⟩ := V; cases A.1.symm.trans h1; exact Sto.of A h2 I
theorem own_alen (X : Stand p l e R s m args below meth c T locs cells slots) (hx : p.tables.exec = Jvm.exec) (hby : c.code = code) (hZ : Z.Warmed39 s.vm) (eT : T.heap = h) {a : Addr} {ty : FieldType} {N : Nat} {f : Nat → Value} (F : own_Ar Z h a ty N f) (hd : decode code pc = .ok (.arraylength, 1)) (h2 : own_G p e below s Q k n (T.setTop (mkF m (pc + 1) Ls (.int N.toInt32 :: st)))) : own_G p e below s Q k n (T.setTop (mkF m pc Ls (.ref a :: st))) := by
  obtain ⟨cl, A, r1, r2, r3⟩ := F
  refine own_st (fun _ => X.arraylength hx (by rw [eT]; exact A.1) (State.isArrayOf_alike hZ.alike A.2.1) (g := mkF m pc Ls (.ref a :: st)) rfl rfl (hb hby hd) _) ?_
  rw [r1]; exact h2
theorem own_iaload (X : Stand p l e R s m args below meth c T locs cells slots) (hx : p.tables.exec = Jvm.exec) (hby : c.code = code) (hZ : Z.Warmed39 s.vm) (eT : T.heap = h) {a : Addr} {N : Nat} {f : Nat → Value} (F : own_Ar Z h a .int N f) {j : Int32} {i : Nat} (hj : j.toInt = i) (hi : i < N) (hd : decode code pc = .ok (.iaload, 1)) (h2 : own_G p e below s Q k n (T.setTop (mkF m (pc + 1) Ls (f i :: st)))) : own_G p e below s Q k n (T.setTop (mkF m pc Ls (.int j :: .ref a :: st))) := by
  obtain ⟨cl, A, r1, r2, r3⟩ := F
  obtain ⟨q1, q2⟩ := own_inb hj hi
  exact own_st (fun _ => X.iaload hx (v := f i) (by rw [eT]; exact A.1) (State.isArrayOf_alike hZ.alike A.2.1) A.2.2 (j := j) (by rw [r1]; exact q1) (by rw [q2]; exact r3 i hi) (g := mkF m pc Ls (.int j :: .ref a :: st)) rfl rfl (hb hby hd) _) h2
theorem own_laload (X : Stand p l e R s m args below meth c T locs cells slots) (hx : p.tables.exec = Jvm.exec) (hby : c.code = code) (hZ : Z.Warmed39 s.vm) (eT : T.heap = h) {a : Addr} {N : Nat} {f : Nat → Value} (F : own_Ar Z h a .long N f) {j : Int32} {i : Nat} (hj : j.toInt = i) (hi : i < N) (hd : decode code pc = .ok (.laload, 1)) (h2 : own_G p e below s Q k n (T.setTop (mkF m (pc + 1) Ls (f i :: st)))) : own_G p e below s Q k n (T.setTop (mkF m pc Ls (.int j :: .ref a :: st))) := by
  obtain ⟨cl, A, r1, r2, r3⟩ := F
  obtain ⟨q1, q2⟩ := own_inb hj hi
  exact own_st (fun _ => X.laload hx (v := f i) (by rw [eT]; exact A.1) (State.isArrayOf_alike hZ.alike A.2.1) A.2.2 (j := j) (by rw [r1]; exact q1) (by rw [q2]; exact r3 i hi) (g := mkF m pc Ls (.int j :: .ref a :: st)) rfl rfl (hb hby hd) _) h2
theorem own_baload (X : Stand p l e R s m args below meth c T locs cells slots) (hx : p.tables.exec = Jvm.exec) (hby : c.code = code) (hZ : Z.Warmed39 s.vm) (eT : T.heap = h) {a : Addr} {N : Nat} {f : Nat → Value} (F : own_Ar Z h a .byte N f) {j : Int32} {i : Nat} (hj : j.toInt = i) (hi : i < N) (hd : decode code pc = .ok (.baload, 1)) (h2 : own_G p e below s Q k n (T.setTop (mkF m (pc + 1) Ls (f i :: st)))) : own_G p e below s Q k n (T.setTop (mkF m pc Ls (.int j :: .ref a :: st))) := by
  obtain ⟨cl, A, r1, r2, r3⟩ := F
  obtain ⟨q1, q2⟩ := own_inb hj hi
  exact own_st (fun _ => X.baloadBytes hx (v := f i) (by rw [eT]; exact A.1) (State.isArrayOf_alike hZ.alike A.2.1) A.2.2 (j := j) (by rw [r1]; exact q1) (by rw [q2]; exact r3 i hi) (g := mkF m pc Ls (.int j :: .ref a :: st)) rfl rfl (hb hby hd) _) h2
theorem own_caload (X : Stand p l e R s m args below meth c T locs cells slots) (hx : p.tables.exec = Jvm.exec) (hby : c.code = code) (hZ : Z.Warmed39 s.vm) (eT : T.heap = h) {a : Addr} {N : Nat} {f : Nat → Value} (F : own_Ar Z h a .char N f) {j : Int32} {i : Nat} (hj : j.toInt = i) (hi : i < N) (hd : decode code pc = .ok (.caload, 1)) (h2 : own_G p e below s Q k n (T.setTop (mkF m (pc + 1) Ls (f i :: st)))) : own_G p e below s Q k n (T.setTop (mkF m pc Ls (.int j :: .ref a :: st))) := by
  obtain ⟨cl, A, r1, r2, r3⟩ := F
  obtain ⟨q1, q2⟩ := own_inb hj hi
  exact own_st (fun _ => X.caload hx (v := f i) (by rw [eT]; exact A.1) (State.isArrayOf_alike hZ.alike A.2.1) A.2.2 (j := j) (by rw [r1]; exact q1) (by rw [q2]; exact r3 i hi) (g := mkF m pc Ls (.int j :: .ref a :: st)) rfl rfl (hb hby hd) _) h2
theorem own_aaload (X : Stand p l e R s m args below meth c T locs cells slots) (hx : p.tables.exec = Jvm.exec) (hby : c.code = code) (hZ : Z.Warmed39 s.vm) (eT : T.heap = h) {a : Addr} {ty : FieldType} {N : Nat} {f : Nat → Value} (F : own_Ar Z h a ty N f) (hty : ty.isReference = true) {j : Int32} {i : Nat} (hj : j.toInt = i) (hi : i < N) (hd : decode code pc = .ok (.aaload, 1)) (h2 : own_G p e below s Q k n (T.setTop (mkF m (pc + 1) Ls (f i :: st)))) : own_G p e below s Q k n (T.setTop (mkF m pc Ls (.int j :: .ref a :: st))) := by
  obtain ⟨cl, A, r1, r2, r3⟩ := F
  obtain ⟨q1, q2⟩ := own_inb hj hi
  exact own_st (fun _ => X.aaload hx (v := f i) (by rw [eT]; exact A.1) (State.isArrayOf_alike hZ.alike A.2.1) hty A.2.2 (j := j) (by rw [r1]; exact q1) (by rw [q2]; exact r3 i hi) (g := mkF m pc Ls (.int j :: .ref a :: st)) rfl rfl (hb hby hd) _) h2
theorem own_iastore (X : Stand p l e R s m args below meth c T locs cells slots) (hx : p.tables.exec = Jvm.exec) (hby : c.code = code) (hZ : Z.Warmed39 s.vm) (eT : T.heap = h) {a : Addr} {N : Nat} {f : Nat → Value} (F : own_Ar Z h a .int N f) {j : Int32} {i : Nat} (hj : j.toInt = i) (hi : i < N) {x : Int32} (hd : decode code pc = .ok (.iastore, 1)) : ∃ T' h', Stand p l e R s m args below meth c T' (locs ++ [⟨a, i⟩]) cells slots ∧ T'.heap = h' ∧ Wr h h' a i (.int x) ∧ own_Ar Z h' a .int N (own_set f i (.int x)) ∧ ∀ target, Steps p.tables e below (T'.setTop (mkF m (pc + 1) Ls st)) target → Steps p.tables e below (T.setTop (mkF m pc Ls (.int x :: .int j :: .ref a :: st))) target := by
  obtain ⟨cl, A, r1, r2, r3⟩ := F
  obtain ⟨q1, q2⟩ := own_inb hj hi
  obtain ⟨T', h', X', e', W, stp⟩ := stI X hx hZ eT A (j := j) (by rw [r1]; exact q1) (g := mkF m pc Ls (.int x :: .int j :: .ref a :: st)) rfl rfl (hb hby hd)
  rw [q2] at X' W
  exact ⟨T', h', X', e', W, own_Ar.store A r1 r2 r3 W, stp⟩
theorem own_lastore (X : Stand p l e R s m args below meth c T locs cells slots) (hx : p.tables.exec = Jvm.exec) (hby : c.code = code) (hZ : Z.Warmed39 s.vm) (eT : T.heap = h) {a : Addr} {N : Nat} {f : Nat → Value} (F : own_Ar Z h a .long N f) {j : Int32} {i : Nat} (hj : j.toInt = i) (hi : i < N) {x : Int64} (hd : decode code pc = .ok (.lastore, 1)) : ∃ T' h', Stand p l e R s m args below meth c T' (locs ++ [⟨a, i⟩]) cells slots ∧ T'.heap = h' ∧ Wr h h' a i (.long x) ∧ own_Ar Z h' a .long N (own_set f i (.long x)) ∧ ∀ target, Steps p.tables e below (T'.setTop (mkF m (pc + 1) Ls st)) target → Steps p.tables e below (T.setTop (mkF m pc Ls (.long x :: .int j :: .ref a :: st))) target := by
  obtain ⟨cl, A, r1, r2, r3⟩ := F
  obtain ⟨q1, q2⟩ := own_inb hj hi
  obtain ⟨T', h', X', e', W, stp⟩ := stJ X hx hZ eT A (j := j) (by rw [r1]; exact q1) (g := mkF m pc Ls (.long x :: .int j :: .ref a :: st)) rfl rfl (hb hby hd)
  rw [q2] at X' W
  exact ⟨T', h', X', e', W, own_Ar.store A r1 r2 r3 W, stp⟩
theorem own_bastore (X : Stand p l e R s m args below meth c T locs cells slots) (hx : p.tables.exec = Jvm.exec) (hby : c.code = code) (hZ : Z.Warmed39 s.vm) (eT : T.heap = h) {a : Addr} {N : Nat} {f : Nat → Value} (F : own_Ar Z h a .byte N f) {j : Int32} {i : Nat} (hj : j.toInt = i) (hi : i < N) {x : Int32} (hd : decode code pc = .ok (.bastore, 1)) : ∃ T' h', Stand p l e R s m args below meth c T' (locs ++ [⟨a, i⟩]) cells slots ∧ T'.heap = h' ∧ Wr h h' a i (.int (nar .byte x)) ∧ own_Ar Z h' a .byte N (own_set f i (.int (nar .byte x))) ∧ ∀ target, Steps p.tables e below (T'.setTop (mkF m (pc + 1) Ls st)) target → Steps p.tables e below (T.setTop (mkF m pc Ls (.int x :: .int j :: .ref a :: st))) target := by
  obtain ⟨cl, A, r1, r2, r3⟩ := F
  obtain ⟨q1, q2⟩ := own_inb hj hi
  obtain ⟨T', h', X', e', W, stp⟩ := stB X hx hZ eT A (j := j) (by rw [r1]; exact q1) (g := mkF m pc Ls (.int x :: .int j :: .ref a :: st)) rfl rfl (hb hby hd)
  rw [q2] at X' W
  exact ⟨T', h', X', e', W, own_Ar.store A r1 r2 r3 W, stp⟩
theorem own_castore (X : Stand p l e R s m args below meth c T locs cells slots) (hx : p.tables.exec = Jvm.exec) (hby : c.code = code) (hZ : Z.Warmed39 s.vm) (eT : T.heap = h) {a : Addr} {N : Nat} {f : Nat → Value} (F : own_Ar Z h a .char N f) {j : Int32} {i : Nat} (hj : j.toInt = i) (hi : i < N) {x : Int32} (hd : decode code pc = .ok (.castore, 1)) : ∃ T' h', Stand p l e R s m args below meth c T' (locs ++ [⟨a, i⟩]) cells slots ∧ T'.heap = h' ∧ Wr h h' a i (.int (nar .char x)) ∧ own_Ar Z h' a .char N (own_set f i (.int (nar .char x))) ∧ ∀ target, Steps p.tables e below (T'.setTop (mkF m (pc + 1) Ls st)) target → Steps p.tables e below (T.setTop (mkF m pc Ls (.int x :: .int j :: .ref a :: st))) target := by
  obtain ⟨cl, A, r1, r2, r3⟩ := F
  obtain ⟨q1, q2⟩ := own_inb hj hi
  obtain ⟨T', h', X', e', W, stp⟩ := stC X hx hZ eT A (j := j) (by rw [r1]; exact q1) (g := mkF m pc Ls (.int x :: .int j :: .ref a :: st)) rfl rfl (hb hby hd)
  rw [q2] at X' W
  exact ⟨T', h', X', e', W, own_Ar.store A r1 r2 r3 W, stp⟩
theorem own_dastore (X : Stand p l e R s m args below meth c T locs cells slots) (hx : p.tables.exec = Jvm.exec) (hby : c.code = code) (hZ : Z.Warmed39 s.vm) (eT : T.heap = h) {a : Addr} {N : Nat} {f : Nat → Value} (F : own_Ar Z h a .double N f) {j : Int32} {i : Nat} (hj : j.toInt = i) (hi : i < N) {x : UInt64} (hd : decode code pc = .ok (.dastore, 1)) : ∃ T' h', Stand p l e R s m args below meth c T' (locs ++ [⟨a, i⟩]) cells slots ∧ T'.heap = h' ∧ Wr h h' a i (.double x) ∧ own_Ar Z h' a .double N (own_set f i (.double x)) ∧ ∀ target, Steps p.tables e below (T'.setTop (mkF m (pc + 1) Ls st)) target → Steps p.tables e below (T.setTop (mkF m pc Ls (.double x :: .int j :: .ref a :: st))) target := by
  obtain ⟨cl, A, r1, r2, r3⟩ := F
  obtain ⟨q1, q2⟩ := own_inb hj hi
  obtain ⟨T', h', X', e', W, stp⟩ := stD X hx hZ eT A (j := j) (by rw [r1]; exact q1) (g := mkF m pc Ls (.double x :: .int j :: .ref a :: st)) rfl rfl (hb hby hd)
  rw [q2] at X' W
  exact ⟨T', h', X', e', W, own_Ar.store A r1 r2 r3 W, stp⟩
theorem own_aastore (X : Stand p l e R s m args below meth c T locs cells slots) (hx : p.tables.exec = Jvm.exec) (hby : c.code = code) (hZ : Z.Warmed39 s.vm) (eT : T.heap = h) {a : Addr} {ty : FieldType} {N : Nat} {f : Nat → Value} (F : own_Ar Z h a ty N f) (hty : ty.isReference = true) {j : Int32} {i : Nat} (hj : j.toInt = i) (hi : i < N) {v : Value} (S : Sto Z h a v) (hd : decode code pc = .ok (.aastore, 1)) : ∃ T' h', Stand p l e R s m args below meth c T' (locs ++ [⟨a, i⟩]) cells slots ∧ T'.heap = h' ∧ Wr h h' a i v ∧ own_Ar Z h' a ty N (own_set f i v) ∧ ∀ target, Steps p.tables e below (T'.setTop (mkF m (pc + 1) Ls st)) target → Steps p.tables e below (T.setTop (mkF m pc Ls (v :: .int j :: .ref a :: st))) target := by
  obtain ⟨cl, A, r1, r2, r3⟩ := F
  obtain ⟨q1, q2⟩ := own_inb hj hi
  obtain ⟨T', h', X', e', W, stp⟩ := stR X hx hZ eT A (j := j) (by rw [r1]; exact q1) hty S (g := mkF m pc Ls (v :: .int j :: .ref a :: st)) rfl rfl (hb hby hd)
  rw [q2] at X' W
  exact ⟨T', h', X', e', W, own_Ar.store A r1 r2 r3 W, stp⟩
end OwnSteps
theorem own_narR {C : String} {v : Value} (h : v.isRef = true) : narrow (.object C) v = v := by rcases ref_cases h with rfl | ⟨z, rfl⟩ <;> rfl
theorem own_catR {v : Value} (h : v.isRef = true) : v.category = 1 := by rcases ref_cases h with rfl | ⟨z, rfl⟩ <;> rfl
theorem own_fitR {C : String} {v : Value} (h : v.isRef = true) : fits (.object C) v = true := by rcases ref_cases h with rfl | ⟨z, rfl⟩ <;> rfl
theorem own_irr {x : Int32} : ¬ x < x := by rw [Int32.lt_iff_toInt_lt]; omega
theorem own_irrL {x : Int64} : ¬ x < x := by rw [Int64.lt_iff_toInt_lt]; omega
section OwnFl
variable {p : Program} {l : Launch} {e : Env} {R : Room} {s : State} {m : MethodId} {args : Array Value} {below : List Frame} {meth : Method} {c : Code} {T : State} {locs : List Loc} {cells slots : Nat} {Q : Option Value → Heap → List Loc → Prop} {k n : Nat} {code : ByteArray} {pc : Nat} {Ls : Array Slot} {st : List Value} {Z : State} {a0 : Array Value} {h : Heap}
theorem own_dconst0 (X : Stand p l e R s m args below meth c T locs cells slots) (hx : p.tables.exec = Jvm.exec) (hby : c.code = code) (hd : decode code pc = .ok (.dconst 0, 1)) (h : own_G p e below s Q k n (T.setTop (mkF m (pc + 1) Ls (.double (FP.l2d 0) :: st)))) : own_G p e below s Q k n (T.setTop (mkF m pc Ls st)) := own_st (fun _ => XS.dconst0 X.here hx rfl (hb hby hd) (by rw [l2d_zero]; rfl)) h
theorem own_i2d (X : Stand p l e R s m args below meth c T locs cells slots) (hx : p.tables.exec = Jvm.exec) (hby : c.code = code) {x : Int32} (hd : decode code pc = .ok (.i2d, 1)) (h : own_G p e below s Q k n (T.setTop (mkF m (pc + 1) Ls (.double (FP.l2d x.toInt64) :: st)))) : own_G p e below s Q k n (T.setTop (mkF m pc Ls (.int x :: st))) := own_st (fun _ => XS.i2dS X.here hx rfl (hb hby hd) rfl (i2d_w x)) h
theorem own_l2d (X : Stand p l e R s m args below meth c T locs cells slots) (hx : p.tables.exec = Jvm.exec) (hby : c.code = code) {x : Int64} (hd : decode code pc = .ok (.l2d, 1)) (h : own_G p e below s Q k n (T.setTop (mkF m (pc + 1) Ls (.double (FP.l2d x) :: st)))) : own_G p e below s Q k n (T.setTop (mkF m pc Ls (.long x :: st))) := own_st (fun _ => XS.l2dS X.here hx rfl (hb hby hd) rfl rfl) h
theorem own_dadd (X : Stand p l e R s m args below meth c T locs cells slots) (hx : p.tables.exec = Jvm.exec) (hby : c.code = code) {a b : Int64} (ha : B53 a) (hb' : B53 b) (hd : decode code pc = .ok (.dadd, 1)) (h : own_G p e below s Q k n (T.setTop (mkF m (pc + 1) Ls (.double (FP.l2d (a + b)) :: st)))) : own_G p e below s Q k n (T.setTop (mkF m pc Ls (.double (FP.l2d b) :: .double (FP.l2d a) :: st))) := own_st (fun _ => XS.daddS X.here hx rfl (hb hby hd) rfl (nn_w (dadd_w ha hb')) (dadd_w ha hb')) h
theorem own_dcmp_eq (X : Stand p l e R s m args below meth c T locs cells slots) (hx : p.tables.exec = Jvm.exec) (hby : c.code = code) {x y : Int64} {o' : CmpOp} {o : Int} {pc' : Nat} (hx1 : B53 x) (hy1 : B53 y) (hd : decode code pc = .ok (.dcmp o', 1)) (hd2 : decode code (pc + 1) = .ok (.ifCond .eq o, 3)) (ho : 0 ≤ ((pc + 1 : Nat) : Int) + o) (hp : (((pc + 1 : Nat) : Int) + o).toNat = pc') (hY : x = y → own_G p e below s Q k n (T.setTop (mkF m pc' Ls st))) (hN : ¬ x = y → own_G p e below s Q k n (T.setTop (mkF m (pc + 4) Ls st))) : own_G p e below s Q k n (T.setTop (mkF m pc Ls (.double (FP.l2d y) :: .double (FP.l2d x) :: st))) := by
  refine own_st (fun _ => XS.dcmpS X.here hx rfl (hb hby hd) rfl (dcmpV_w hx1 hy1 o')) ?_
  exact own_if_eq (x := lcmpW x y) X hx hby hd2 ho hp (fun q => hY ((lw_eq x y).mp q)) (fun q => hN (fun z => q ((lw_eq x y).mpr z)))
theorem own_dcmp_ne (X : Stand p l e R s m args below meth c T locs cells slots) (hx : p.tables.exec = Jvm.exec) (hby : c.code = code) {x y : Int64} {o' : CmpOp} {o : Int} {pc' : Nat} (hx1 : B53 x) (hy1 : B53 y) (hd : decode code pc = .ok (.dcmp o', 1)) (hd2 : decode code (pc + 1) = .ok (.ifCond .ne o, 3)) (ho : 0 ≤ ((pc + 1 : Nat) : Int) + o) (hp : (((pc + 1 : Nat) : Int) + o).toNat = pc') (hY : ¬ x = y → own_G p e below s Q k n (T.setTop (mkF m pc' Ls st))) (hN : x = y → own_G p e below s Q k n (T.setTop (mkF m (pc + 4) Ls st))) : own_G p e below s Q k n (T.setTop (mkF m pc Ls (.double (FP.l2d y) :: .double (FP.l2d x) :: st))) := by
  refine own_st (fun _ => XS.dcmpS X.here hx rfl (hb hby hd) rfl (dcmpV_w hx1 hy1 o')) ?_
  exact own_if_ne (x := lcmpW x y) X hx hby hd2 ho hp (fun q => hY (fun z => q ((lw_eq x y).mpr z))) (fun q => hN ((lw_eq x y).mp q))
theorem own_dcmp_lt (X : Stand p l e R s m args below meth c T locs cells slots) (hx : p.tables.exec = Jvm.exec) (hby : c.code = code) {x y : Int64} {o' : CmpOp} {o : Int} {pc' : Nat} (hx1 : B53 x) (hy1 : B53 y) (hd : decode code pc = .ok (.dcmp o', 1)) (hd2 : decode code (pc + 1) = .ok (.ifCond .lt o, 3)) (ho : 0 ≤ ((pc + 1 : Nat) : Int) + o) (hp : (((pc + 1 : Nat) : Int) + o).toNat = pc') (hY : x < y → own_G p e below s Q k n (T.setTop (mkF m pc' Ls st))) (hN : ¬ x < y → own_G p e below s Q k n (T.setTop (mkF m (pc + 4) Ls st))) : own_G p e below s Q k n (T.setTop (mkF m pc Ls (.double (FP.l2d y) :: .double (FP.l2d x) :: st))) := by
  refine own_st (fun _ => XS.dcmpS X.here hx rfl (hb hby hd) rfl (dcmpV_w hx1 hy1 o')) ?_
  exact own_if_lt (x := lcmpW x y) X hx hby hd2 ho hp (fun q => hY ((lw_lt x y).mp q)) (fun q => hN (fun z => q ((lw_lt x y).mpr z)))
theorem own_dcmp_ge (X : Stand p l e R s m args below meth c T locs cells slots) (hx : p.tables.exec = Jvm.exec) (hby : c.code = code) {x y : Int64} {o' : CmpOp} {o : Int} {pc' : Nat} (hx1 : B53 x) (hy1 : B53 y) (hd : decode code pc = .ok (.dcmp o', 1)) (hd2 : decode code (pc + 1) = .ok (.ifCond .ge o, 3)) (ho : 0 ≤ ((pc + 1 : Nat) : Int) + o) (hp : (((pc + 1 : Nat) : Int) + o).toNat = pc') (hY : ¬ x < y → own_G p e below s Q k n (T.setTop (mkF m pc' Ls st))) (hN : x < y → own_G p e below s Q k n (T.setTop (mkF m (pc + 4) Ls st))) : own_G p e below s Q k n (T.setTop (mkF m pc Ls (.double (FP.l2d y) :: .double (FP.l2d x) :: st))) := by
  refine own_st (fun _ => XS.dcmpS X.here hx rfl (hb hby hd) rfl (dcmpV_w hx1 hy1 o')) ?_
  exact own_if_ge (x := lcmpW x y) X hx hby hd2 ho hp (fun q => hY (fun z => q ((lw_lt x y).mpr z))) (fun q => hN ((lw_lt x y).mp q))
theorem own_dcmp_gt (X : Stand p l e R s m args below meth c T locs cells slots) (hx : p.tables.exec = Jvm.exec) (hby : c.code = code) {x y : Int64} {o' : CmpOp} {o : Int} {pc' : Nat} (hx1 : B53 x) (hy1 : B53 y) (hd : decode code pc = .ok (.dcmp o', 1)) (hd2 : decode code (pc + 1) = .ok (.ifCond .gt o, 3)) (ho : 0 ≤ ((pc + 1 : Nat) : Int) + o) (hp : (((pc + 1 : Nat) : Int) + o).toNat = pc') (hY : y < x → own_G p e below s Q k n (T.setTop (mkF m pc' Ls st))) (hN : ¬ y < x → own_G p e below s Q k n (T.setTop (mkF m (pc + 4) Ls st))) : own_G p e below s Q k n (T.setTop (mkF m pc Ls (.double (FP.l2d y) :: .double (FP.l2d x) :: st))) := by
  refine own_st (fun _ => XS.dcmpS X.here hx rfl (hb hby hd) rfl (dcmpV_w hx1 hy1 o')) ?_
  exact own_if_gt (x := lcmpW x y) X hx hby hd2 ho hp (fun q => hY ((lw_gt x y).mp q)) (fun q => hN (fun z => q ((lw_gt x y).mpr z)))
theorem own_dcmp_le (X : Stand p l e R s m args below meth c T locs cells slots) (hx : p.tables.exec = Jvm.exec) (hby : c.code = code) {x y : Int64} {o' : CmpOp} {o : Int} {pc' : Nat} (hx1 : B53 x) (hy1 : B53 y) (hd : decode code pc = .ok (.dcmp o', 1)) (hd2 : decode code (pc + 1) = .ok (.ifCond .le o, 3)) (ho : 0 ≤ ((pc + 1 : Nat) : Int) + o) (hp : (((pc + 1 : Nat) : Int) + o).toNat = pc') (hY : ¬ y < x → own_G p e below s Q k n (T.setTop (mkF m pc' Ls st))) (hN : y < x → own_G p e below s Q k n (T.setTop (mkF m (pc + 4) Ls st))) : own_G p e below s Q k n (T.setTop (mkF m pc Ls (.double (FP.l2d y) :: .double (FP.l2d x) :: st))) := by
  refine own_st (fun _ => XS.dcmpS X.here hx rfl (hb hby hd) rfl (dcmpV_w hx1 hy1 o')) ?_
  exact own_if_le (x := lcmpW x y) X hx hby hd2 ho hp (fun q => hY (fun z => q ((lw_gt x y).mpr z))) (fun q => hN ((lw_gt x y).mp q))
theorem own_daload (X : Stand p l e R s m args below meth c T locs cells slots) (hx : p.tables.exec = Jvm.exec) (hby : c.code = code) (hZ : Z.Warmed39 s.vm) (eT : T.heap = h) {a : Addr} {N : Nat} {f : Nat → Value} (F : own_Ar Z h a .double N f) {j : Int32} {i : Nat} (hj : j.toInt = i) (hi : i < N) (hd : decode code pc = .ok (.daload, 1)) (h2 : own_G p e below s Q k n (T.setTop (mkF m (pc + 1) Ls (f i :: st)))) : own_G p e below s Q k n (T.setTop (mkF m pc Ls (.int j :: .ref a :: st))) := by
  obtain ⟨cl, A, r1, r2, r3⟩ := F
  obtain ⟨q1, q2⟩ := own_inb hj hi
  exact own_st (fun _ => X.daload hx (v := f i) (by rw [eT]; exact A.1) (State.isArrayOf_alike hZ.alike A.2.1) A.2.2 (j := j) (by rw [r1]; exact q1) (by rw [q2]; exact r3 i hi) (g := mkF m pc Ls (.int j :: .ref a :: st)) rfl rfl (hb hby hd) _) h2
end OwnFl
def own_R (k : Int) (a : Int64) : Prop := -k ≤ a.toInt ∧ a.toInt ≤ k
theorem own_R.b53 {k : Int} {a : Int64} (h : own_R k a) (hk : k < 9007199254740992) : B53 a := ⟨by have := h.1; omega, by have := h.2; omega⟩
theorem own_R.add {k l : Int} {a b : Int64} (h : own_R k a) (h' : own_R l b) (hk : k + l < 4611686018427387904) : own_R (k + l) (a + b) := by
  have q := c_ladd a b; have r := rng64 (a + b)
  obtain ⟨h1, h2⟩ := h; obtain ⟨h3, h4⟩ := h'
  unfold own_R; omega
theorem own_R.i (x : Int32) : own_R 2147483648 x.toInt64 := by
  have q := c_i2l x; have r := rng32 x
  unfold own_R; omega
theorem own_R.z : own_R 0 0 := by unfold own_R; decide
theorem own_w0 {Z : State} {a0 : Array Value} (hw : ∀ d ∈ tables_1, d.before a0 Z = true) : (Jvm.Cond.arrayClass Jvm.ClassFile.FieldType.double).before a0 Z = true := hw _ (List.mem_of_getElem? (i := 0) rfl)
theorem own_w1 {Z : State} {a0 : Array Value} (hw : ∀ d ∈ tables_1, d.before a0 Z = true) : (Jvm.Cond.methodLink "com/example/wattfloor/wattfloor/market/VectorsSumPinLaw" (7 : Nat) ({ cls := "com/example/wattfloor/wattfloor/market/Vectors", name := "sum", desc := "([D)D" } : Jvm.MethodName)).before a0 Z = true := hw _ (List.mem_of_getElem? (i := 1) rfl)
theorem own_w2 {Z : State} {a0 : Array Value} (hw : ∀ d ∈ tables_1, d.before a0 Z = true) : (Jvm.Cond.static ({ cls := "com/example/wattfloor/wattfloor/market/Vectors", name := "sum", desc := "([D)D" } : Jvm.MethodName)).before a0 Z = true := hw _ (List.mem_of_getElem? (i := 2) rfl)
theorem own_w3 {Z : State} {a0 : Array Value} (hw : ∀ d ∈ tables_1, d.before a0 Z = true) : (Jvm.Cond.initialized "com/example/wattfloor/wattfloor/market/Vectors").before a0 Z = true := hw _ (List.mem_of_getElem? (i := 3) rfl)
theorem own_w4 {Z : State} {a0 : Array Value} (hw : ∀ d ∈ tables_1, d.before a0 Z = true) : (Jvm.Cond.code ({ cls := "com/example/wattfloor/wattfloor/market/Vectors", name := "sum", desc := "([D)D" } : Jvm.MethodName) prog_127_method_2_code (8 : Nat) (Option.some Jvm.ClassFile.FieldType.double)).before a0 Z = true := hw _ (List.mem_of_getElem? (i := 4) rfl)
theorem own_d1_0 : decode prog_127_method_2_code 0 = .ok (.dconst 0, 1) := by decide +kernel
theorem own_d1_1 : decode prog_127_method_2_code 1 = .ok (.dstore_n 1, 1) := by decide +kernel
theorem own_d1_2 : decode prog_127_method_2_code 2 = .ok (.aload_n 0, 1) := by decide +kernel
theorem own_d1_3 : decode prog_127_method_2_code 3 = .ok (.astore_n 3, 1) := by decide +kernel
theorem own_d1_4 : decode prog_127_method_2_code 4 = .ok (.aload_n 3, 1) := by decide +kernel
theorem own_d1_5 : decode prog_127_method_2_code 5 = .ok (.arraylength, 1) := by decide +kernel
theorem own_d1_6 : decode prog_127_method_2_code 6 = .ok (.istore 4, 2) := by decide +kernel
theorem own_d1_8 : decode prog_127_method_2_code 8 = .ok (.iconst 0, 1) := by decide +kernel
theorem own_d1_9 : decode prog_127_method_2_code 9 = .ok (.istore 5, 2) := by decide +kernel
theorem own_d1_11 : decode prog_127_method_2_code 11 = .ok (.iload 5, 2) := by decide +kernel
theorem own_d1_13 : decode prog_127_method_2_code 13 = .ok (.iload 4, 2) := by decide +kernel
theorem own_d1_15 : decode prog_127_method_2_code 15 = .ok (.if_icmp .ge 20, 3) := by decide +kernel
theorem own_d1_18 : decode prog_127_method_2_code 18 = .ok (.aload_n 3, 1) := by decide +kernel
theorem own_d1_19 : decode prog_127_method_2_code 19 = .ok (.iload 5, 2) := by decide +kernel
theorem own_d1_21 : decode prog_127_method_2_code 21 = .ok (.daload, 1) := by decide +kernel
theorem own_d1_22 : decode prog_127_method_2_code 22 = .ok (.dstore 6, 2) := by decide +kernel
theorem own_d1_24 : decode prog_127_method_2_code 24 = .ok (.dload_n 1, 1) := by decide +kernel
theorem own_d1_25 : decode prog_127_method_2_code 25 = .ok (.dload 6, 2) := by decide +kernel
theorem own_d1_27 : decode prog_127_method_2_code 27 = .ok (.dadd, 1) := by decide +kernel
theorem own_d1_28 : decode prog_127_method_2_code 28 = .ok (.dstore_n 1, 1) := by decide +kernel
theorem own_d1_29 : decode prog_127_method_2_code 29 = .ok (.iinc 5 1, 3) := by decide +kernel
theorem own_d1_32 : decode prog_127_method_2_code 32 = .ok (.goto (-21), 3) := by decide +kernel
theorem own_d1_35 : decode prog_127_method_2_code 35 = .ok (.dload_n 1, 1) := by decide +kernel
theorem own_d1_36 : decode prog_127_method_2_code 36 = .ok (.dreturn, 1) := by decide +kernel
theorem own_pd0 : parseMethodDescriptor "([D)D" = some ⟨[(.array .double)], some .double⟩ := by decide +kernel
theorem own_pn0 : plainName "com/example/wattfloor/wattfloor/market/Vectors" = true := by first | (simp [plainName, overriddenIn]; done) | decide +kernel
theorem own_pn1 : plainName "com/example/wattfloor/wattfloor/market/VectorsSumPinLaw" = true := by first | (simp [plainName, overriddenIn]; done) | decide +kernel
def own_gk (a b c d : Int32) : Nat → Int64 := fun j => if j = 0 then a.toInt64 else if j = 1 then b.toInt64 else if j = 2 then c.toInt64 else d.toInt64
theorem own_gk_R (a b c d : Int32) (j : Nat) : own_R 2147483648 (own_gk a b c d j) := by
  unfold own_gk; (repeat' split) <;> exact own_R.i _
theorem own_mod5 (x : Int32) : (x &&& (7 : Int32)) % (5 : Int32) = 0 ∨ (x &&& (7 : Int32)) % (5 : Int32) = 1 ∨ (x &&& (7 : Int32)) % (5 : Int32) = 2 ∨ (x &&& (7 : Int32)) % (5 : Int32) = 3 ∨ (x &&& (7 : Int32)) % (5 : Int32) = 4 := by
  have h := c_and x (7 : Int32) (by decide)
  have h2 := (c_irem (x &&& (7 : Int32)) 5 5 (by decide)).1 h.1
  simp only [← Int32.toInt_inj, h2, Int32.reduceToInt]
  omega

def own_rmS0_Q (Z : State) (a : Addr) (g : Nat → Int64) (h0 : Heap) (n0 : Nat) : Option Value → Heap → List Loc → Prop := fun v h L => v = some (Value.double (FP.l2d (0 : Int64))) ∧ h = h0 ∧ Fr n0 L
theorem own_rmS0_ef (m : MethodId) (a : Addr)  : entryFrame m #[(Value.ref a)] 8 = mkF m 0 #[.val (Value.ref a), .unset, .unset, .unset, .unset, .unset, .unset, .unset] [] := by first | (simp [entryFrame, mkF, argsToLocals, Value.category]; done) | rfl
set_option maxRecDepth 65536 in
set_option maxHeartbeats 40000000 in
theorem own_rmS0 (l : Launch) (Z : State) (a0 : Array Value) (hw : ∀ d ∈ tables_1, d.before a0 Z = true) (ws : List Jvm.Cond) (a : Addr) (g : Nat → Int64) (h0 : Heap) (n0 : Nat) (O0 : Old Z n0 h0) (A_a : own_Ar Z h0 a .double 0 (fun j => .double (FP.l2d (g j)))) (hR : ∀ j, own_R 2147483648 (g j)) :
    MetFree l (⟨"com/example/wattfloor/wattfloor/market/Vectors", "sum", "([D)D"⟩ : MethodName) (head1 (Jvm.Cond.code (⟨"com/example/wattfloor/wattfloor/market/Vectors", "sum", "([D)D"⟩ : MethodName) prog_127_method_2_code 8 (some .double) :: ws) ({ frames := 0, cells := 0, slots := 0, locals := 0 } : Room)) (fun aa_ U => aa_ = #[(Value.ref a)] ∧ Z.Warmed39 U.vm ∧ U.heap = h0) (fun _ _ _ _ _ => True) (fun _ UU_ oo_ UX_ => ∃ vv_ LL_, oo_ = .returned vv_ ∧ (own_rmS0_Q Z a g h0 n0) vv_ UX_.heap LL_ ∧ FrameEnd UU_ oo_ UX_ LL_ ({ frames := 0, cells := 0, slots := 0, locals := 0 } : Room).cells ({ frames := 0, cells := 0, slots := 0, locals := 0 } : Room).slots) := by
  refine MetFree.of_bodySF (plainFor_of_name own_pn0) hisR ?_
  intro p e s m args below meth c s₁ Bd hml0 hP hK
  obtain ⟨rfl, hZ, hh⟩ := hP
  have hx := Bd.exec
  have hby := Bd.bytes
  have hml : c.maxLocals = 8 := hml0
  have hown : s.vm.findClass "com/example/wattfloor/wattfloor/market/Vectors" = some m.cls := findClass_of_methodNamed Bd.named
  have hnm := (name_of_methodNamed Bd.named Bd.method).1
  have hlk : meth.locks = false := BodyLoose.notSynchronized Bd
  have X0 : Stand p l e ({ frames := 0, cells := 0, slots := 0, locals := 0 } : Room) s m #[(Value.ref a)] below meth c s₁ [] 0 0 := Stand.of_body Bd
  have e0 : s₁.heap = h0 := by rw [← hh, Bd.state]; rfl
  have N0 := Fr.nil n0
  show own_G p e below s (own_rmS0_Q Z a g h0 n0) ({ frames := 0, cells := 0, slots := 0, locals := 0 } : Room).cells ({ frames := 0, cells := 0, slots := 0, locals := 0 } : Room).slots (s₁.setTop (entryFrame m #[(Value.ref a)] 8))
  refine own_cast (own_rmS0_ef m a ) ?_
  show own_G p e below s _ _ _ (s₁.setTop (mkF m 0 #[.val (Value.ref a), .unset, .unset, .unset, .unset, .unset, .unset, .unset] []))
  refine own_dconst0 X0 hx hby own_d1_0 ?_
  show own_G p e below s _ _ _ (s₁.setTop (mkF m 1 #[.val (Value.ref a), .unset, .unset, .unset, .unset, .unset, .unset, .unset] [(Value.double (FP.l2d (0 : Int64)))]))
  refine own_dstoreN X0 hx hby own_d1_1 (l' := #[.val (Value.ref a), .val (Value.double (FP.l2d (0 : Int64))), .second, .unset, .unset, .unset, .unset, .unset]) rfl ?_
  show own_G p e below s _ _ _ (s₁.setTop (mkF m 2 #[.val (Value.ref a), .val (Value.double (FP.l2d (0 : Int64))), .second, .unset, .unset, .unset, .unset, .unset] []))
  refine own_aloadN X0 hx hby own_d1_2 rfl rfl ?_
  show own_G p e below s _ _ _ (s₁.setTop (mkF m 3 #[.val (Value.ref a), .val (Value.double (FP.l2d (0 : Int64))), .second, .unset, .unset, .unset, .unset, .unset] [(Value.ref a)]))
  refine own_astoreN X0 hx hby own_d1_3 rfl (l' := #[.val (Value.ref a), .val (Value.double (FP.l2d (0 : Int64))), .second, .val (Value.ref a), .unset, .unset, .unset, .unset]) rfl ?_
  show own_G p e below s _ _ _ (s₁.setTop (mkF m 4 #[.val (Value.ref a), .val (Value.double (FP.l2d (0 : Int64))), .second, .val (Value.ref a), .unset, .unset, .unset, .unset] []))
  refine own_aloadN X0 hx hby own_d1_4 rfl rfl ?_
  show own_G p e below s _ _ _ (s₁.setTop (mkF m 5 #[.val (Value.ref a), .val (Value.double (FP.l2d (0 : Int64))), .second, .val (Value.ref a), .unset, .unset, .unset, .unset] [(Value.ref a)]))
  refine own_alen X0 hx hby hZ e0 A_a own_d1_5 ?_
  show own_G p e below s _ _ _ (s₁.setTop (mkF m 6 #[.val (Value.ref a), .val (Value.double (FP.l2d (0 : Int64))), .second, .val (Value.ref a), .unset, .unset, .unset, .unset] [(Value.int (0 : Int32))]))
  refine own_istore X0 hx hby own_d1_6 (l' := #[.val (Value.ref a), .val (Value.double (FP.l2d (0 : Int64))), .second, .val (Value.ref a), .val (Value.int (0 : Int32)), .unset, .unset, .unset]) rfl ?_
  show own_G p e below s _ _ _ (s₁.setTop (mkF m 8 #[.val (Value.ref a), .val (Value.double (FP.l2d (0 : Int64))), .second, .val (Value.ref a), .val (Value.int (0 : Int32)), .unset, .unset, .unset] []))
  refine own_iconst X0 hx hby own_d1_8 ?_
  show own_G p e below s _ _ _ (s₁.setTop (mkF m 9 #[.val (Value.ref a), .val (Value.double (FP.l2d (0 : Int64))), .second, .val (Value.ref a), .val (Value.int (0 : Int32)), .unset, .unset, .unset] [(Value.int (0 : Int32))]))
  refine own_istore X0 hx hby own_d1_9 (l' := #[.val (Value.ref a), .val (Value.double (FP.l2d (0 : Int64))), .second, .val (Value.ref a), .val (Value.int (0 : Int32)), .val (Value.int (0 : Int32)), .unset, .unset]) rfl ?_
  show own_G p e below s _ _ _ (s₁.setTop (mkF m 11 #[.val (Value.ref a), .val (Value.double (FP.l2d (0 : Int64))), .second, .val (Value.ref a), .val (Value.int (0 : Int32)), .val (Value.int (0 : Int32)), .unset, .unset] []))
  refine own_iload X0 hx hby own_d1_11 rfl ?_
  show own_G p e below s _ _ _ (s₁.setTop (mkF m 13 #[.val (Value.ref a), .val (Value.double (FP.l2d (0 : Int64))), .second, .val (Value.ref a), .val (Value.int (0 : Int32)), .val (Value.int (0 : Int32)), .unset, .unset] [(Value.int (0 : Int32))]))
  refine own_iload X0 hx hby own_d1_13 rfl ?_
  show own_G p e below s _ _ _ (s₁.setTop (mkF m 15 #[.val (Value.ref a), .val (Value.double (FP.l2d (0 : Int64))), .second, .val (Value.ref a), .val (Value.int (0 : Int32)), .val (Value.int (0 : Int32)), .unset, .unset] [(Value.int (0 : Int32)), (Value.int (0 : Int32))]))
  refine own_icmp_ge X0 hx hby own_d1_15 (pc' := 35) (by decide) (by decide) (fun hb1 => ?_) (fun hb1 => by exfalso; revert hb1; decide)
  show own_G p e below s _ _ _ (s₁.setTop (mkF m 35 #[.val (Value.ref a), .val (Value.double (FP.l2d (0 : Int64))), .second, .val (Value.ref a), .val (Value.int (0 : Int32)), .val (Value.int (0 : Int32)), .unset, .unset] []))
  refine own_dloadN X0 hx hby own_d1_35 rfl ?_
  show own_G p e below s _ _ _ (s₁.setTop (mkF m 36 #[.val (Value.ref a), .val (Value.double (FP.l2d (0 : Int64))), .second, .val (Value.ref a), .val (Value.int (0 : Int32)), .val (Value.int (0 : Int32)), .unset, .unset] [(Value.double (FP.l2d (0 : Int64)))]))
  refine own_retD X0 hx hby hlk Bd.returns own_d1_36 (by decide) (by decide) ?_
  refine ⟨?_, e0, N0⟩
  show some (Value.double (FP.l2d (0 : Int64))) = _
  rfl
def own_rmS1_Q (Z : State) (a : Addr) (g : Nat → Int64) (h0 : Heap) (n0 : Nat) : Option Value → Heap → List Loc → Prop := fun v h L => v = some (Value.double (FP.l2d ((0 : Int64) + (g 0)))) ∧ h = h0 ∧ Fr n0 L
theorem own_rmS1_ef (m : MethodId) (a : Addr)  : entryFrame m #[(Value.ref a)] 8 = mkF m 0 #[.val (Value.ref a), .unset, .unset, .unset, .unset, .unset, .unset, .unset] [] := by first | (simp [entryFrame, mkF, argsToLocals, Value.category]; done) | rfl
set_option maxRecDepth 65536 in
set_option maxHeartbeats 40000000 in
theorem own_rmS1 (l : Launch) (Z : State) (a0 : Array Value) (hw : ∀ d ∈ tables_1, d.before a0 Z = true) (ws : List Jvm.Cond) (a : Addr) (g : Nat → Int64) (h0 : Heap) (n0 : Nat) (O0 : Old Z n0 h0) (A_a : own_Ar Z h0 a .double 1 (fun j => .double (FP.l2d (g j)))) (hR : ∀ j, own_R 2147483648 (g j)) :
    MetFree l (⟨"com/example/wattfloor/wattfloor/market/Vectors", "sum", "([D)D"⟩ : MethodName) (head1 (Jvm.Cond.code (⟨"com/example/wattfloor/wattfloor/market/Vectors", "sum", "([D)D"⟩ : MethodName) prog_127_method_2_code 8 (some .double) :: ws) ({ frames := 0, cells := 0, slots := 0, locals := 0 } : Room)) (fun aa_ U => aa_ = #[(Value.ref a)] ∧ Z.Warmed39 U.vm ∧ U.heap = h0) (fun _ _ _ _ _ => True) (fun _ UU_ oo_ UX_ => ∃ vv_ LL_, oo_ = .returned vv_ ∧ (own_rmS1_Q Z a g h0 n0) vv_ UX_.heap LL_ ∧ FrameEnd UU_ oo_ UX_ LL_ ({ frames := 0, cells := 0, slots := 0, locals := 0 } : Room).cells ({ frames := 0, cells := 0, slots := 0, locals := 0 } : Room).slots) := by
  refine MetFree.of_bodySF (plainFor_of_name own_pn0) hisR ?_
  intro p e s m args below meth c s₁ Bd hml0 hP hK
  obtain ⟨rfl, hZ, hh⟩ := hP
  have hx := Bd.exec
  have hby := Bd.bytes
  have hml : c.maxLocals = 8 := hml0
  have hown : s.vm.findClass "com/example/wattfloor/wattfloor/market/Vectors" = some m.cls := findClass_of_methodNamed Bd.named
  have hnm := (name_of_methodNamed Bd.named Bd.method).1
  have hlk : meth.locks = false := BodyLoose.notSynchronized Bd
  have X0 : Stand p l e ({ frames := 0, cells := 0, slots := 0, locals := 0 } : Room) s m #[(Value.ref a)] below meth c s₁ [] 0 0 := Stand.of_body Bd
  have e0 : s₁.heap = h0 := by rw [← hh, Bd.state]; rfl
  have N0 := Fr.nil n0
  show own_G p e below s (own_rmS1_Q Z a g h0 n0) ({ frames := 0, cells := 0, slots := 0, locals := 0 } : Room).cells ({ frames := 0, cells := 0, slots := 0, locals := 0 } : Room).slots (s₁.setTop (entryFrame m #[(Value.ref a)] 8))
  refine own_cast (own_rmS1_ef m a ) ?_
  show own_G p e below s _ _ _ (s₁.setTop (mkF m 0 #[.val (Value.ref a), .unset, .unset, .unset, .unset, .unset, .unset, .unset] []))
  refine own_dconst0 X0 hx hby own_d1_0 ?_
  show own_G p e below s _ _ _ (s₁.setTop (mkF m 1 #[.val (Value.ref a), .unset, .unset, .unset, .unset, .unset, .unset, .unset] [(Value.double (FP.l2d (0 : Int64)))]))
  refine own_dstoreN X0 hx hby own_d1_1 (l' := #[.val (Value.ref a), .val (Value.double (FP.l2d (0 : Int64))), .second, .unset, .unset, .unset, .unset, .unset]) rfl ?_
  show own_G p e below s _ _ _ (s₁.setTop (mkF m 2 #[.val (Value.ref a), .val (Value.double (FP.l2d (0 : Int64))), .second, .unset, .unset, .unset, .unset, .unset] []))
  refine own_aloadN X0 hx hby own_d1_2 rfl rfl ?_
  show own_G p e below s _ _ _ (s₁.setTop (mkF m 3 #[.val (Value.ref a), .val (Value.double (FP.l2d (0 : Int64))), .second, .unset, .unset, .unset, .unset, .unset] [(Value.ref a)]))
  refine own_astoreN X0 hx hby own_d1_3 rfl (l' := #[.val (Value.ref a), .val (Value.double (FP.l2d (0 : Int64))), .second, .val (Value.ref a), .unset, .unset, .unset, .unset]) rfl ?_
  show own_G p e below s _ _ _ (s₁.setTop (mkF m 4 #[.val (Value.ref a), .val (Value.double (FP.l2d (0 : Int64))), .second, .val (Value.ref a), .unset, .unset, .unset, .unset] []))
  refine own_aloadN X0 hx hby own_d1_4 rfl rfl ?_
  show own_G p e below s _ _ _ (s₁.setTop (mkF m 5 #[.val (Value.ref a), .val (Value.double (FP.l2d (0 : Int64))), .second, .val (Value.ref a), .unset, .unset, .unset, .unset] [(Value.ref a)]))
  refine own_alen X0 hx hby hZ e0 A_a own_d1_5 ?_
  show own_G p e below s _ _ _ (s₁.setTop (mkF m 6 #[.val (Value.ref a), .val (Value.double (FP.l2d (0 : Int64))), .second, .val (Value.ref a), .unset, .unset, .unset, .unset] [(Value.int (1 : Int32))]))
  refine own_istore X0 hx hby own_d1_6 (l' := #[.val (Value.ref a), .val (Value.double (FP.l2d (0 : Int64))), .second, .val (Value.ref a), .val (Value.int (1 : Int32)), .unset, .unset, .unset]) rfl ?_
  show own_G p e below s _ _ _ (s₁.setTop (mkF m 8 #[.val (Value.ref a), .val (Value.double (FP.l2d (0 : Int64))), .second, .val (Value.ref a), .val (Value.int (1 : Int32)), .unset, .unset, .unset] []))
  refine own_iconst X0 hx hby own_d1_8 ?_
  show own_G p e below s _ _ _ (s₁.setTop (mkF m 9 #[.val (Value.ref a), .val (Value.double (FP.l2d (0 : Int64))), .second, .val (Value.ref a), .val (Value.int (1 : Int32)), .unset, .unset, .unset] [(Value.int (0 : Int32))]))
  refine own_istore X0 hx hby own_d1_9 (l' := #[.val (Value.ref a), .val (Value.double (FP.l2d (0 : Int64))), .second, .val (Value.ref a), .val (Value.int (1 : Int32)), .val (Value.int (0 : Int32)), .unset, .unset]) rfl ?_
  show own_G p e below s _ _ _ (s₁.setTop (mkF m 11 #[.val (Value.ref a), .val (Value.double (FP.l2d (0 : Int64))), .second, .val (Value.ref a), .val (Value.int (1 : Int32)), .val (Value.int (0 : Int32)), .unset, .unset] []))
  refine own_iload X0 hx hby own_d1_11 rfl ?_
  show own_G p e below s _ _ _ (s₁.setTop (mkF m 13 #[.val (Value.ref a), .val (Value.double (FP.l2d (0 : Int64))), .second, .val (Value.ref a), .val (Value.int (1 : Int32)), .val (Value.int (0 : Int32)), .unset, .unset] [(Value.int (0 : Int32))]))
  refine own_iload X0 hx hby own_d1_13 rfl ?_
  show own_G p e below s _ _ _ (s₁.setTop (mkF m 15 #[.val (Value.ref a), .val (Value.double (FP.l2d (0 : Int64))), .second, .val (Value.ref a), .val (Value.int (1 : Int32)), .val (Value.int (0 : Int32)), .unset, .unset] [(Value.int (1 : Int32)), (Value.int (0 : Int32))]))
  refine own_icmp_ge X0 hx hby own_d1_15 (pc' := 35) (by decide) (by decide) (fun hb1 => by exfalso; revert hb1; decide) (fun hb1 => ?_)
  show own_G p e below s _ _ _ (s₁.setTop (mkF m 18 #[.val (Value.ref a), .val (Value.double (FP.l2d (0 : Int64))), .second, .val (Value.ref a), .val (Value.int (1 : Int32)), .val (Value.int (0 : Int32)), .unset, .unset] []))
  refine own_aloadN X0 hx hby own_d1_18 rfl rfl ?_
  show own_G p e below s _ _ _ (s₁.setTop (mkF m 19 #[.val (Value.ref a), .val (Value.double (FP.l2d (0 : Int64))), .second, .val (Value.ref a), .val (Value.int (1 : Int32)), .val (Value.int (0 : Int32)), .unset, .unset] [(Value.ref a)]))
  refine own_iload X0 hx hby own_d1_19 rfl ?_
  show own_G p e below s _ _ _ (s₁.setTop (mkF m 21 #[.val (Value.ref a), .val (Value.double (FP.l2d (0 : Int64))), .second, .val (Value.ref a), .val (Value.int (1 : Int32)), .val (Value.int (0 : Int32)), .unset, .unset] [(Value.int (0 : Int32)), (Value.ref a)]))
  refine own_daload X0 hx hby hZ e0 A_a (j := (0 : Int32)) (i := 0) (by decide) (by decide) own_d1_21 ?_
  show own_G p e below s _ _ _ (s₁.setTop (mkF m 22 #[.val (Value.ref a), .val (Value.double (FP.l2d (0 : Int64))), .second, .val (Value.ref a), .val (Value.int (1 : Int32)), .val (Value.int (0 : Int32)), .unset, .unset] [(Value.double (FP.l2d (g 0)))]))
  refine own_dstore X0 hx hby own_d1_22 (l' := #[.val (Value.ref a), .val (Value.double (FP.l2d (0 : Int64))), .second, .val (Value.ref a), .val (Value.int (1 : Int32)), .val (Value.int (0 : Int32)), .val (Value.double (FP.l2d (g 0))), .second]) rfl ?_
  show own_G p e below s _ _ _ (s₁.setTop (mkF m 24 #[.val (Value.ref a), .val (Value.double (FP.l2d (0 : Int64))), .second, .val (Value.ref a), .val (Value.int (1 : Int32)), .val (Value.int (0 : Int32)), .val (Value.double (FP.l2d (g 0))), .second] []))
  refine own_dloadN X0 hx hby own_d1_24 rfl ?_
  show own_G p e below s _ _ _ (s₁.setTop (mkF m 25 #[.val (Value.ref a), .val (Value.double (FP.l2d (0 : Int64))), .second, .val (Value.ref a), .val (Value.int (1 : Int32)), .val (Value.int (0 : Int32)), .val (Value.double (FP.l2d (g 0))), .second] [(Value.double (FP.l2d (0 : Int64)))]))
  refine own_dload X0 hx hby own_d1_25 rfl ?_
  show own_G p e below s _ _ _ (s₁.setTop (mkF m 27 #[.val (Value.ref a), .val (Value.double (FP.l2d (0 : Int64))), .second, .val (Value.ref a), .val (Value.int (1 : Int32)), .val (Value.int (0 : Int32)), .val (Value.double (FP.l2d (g 0))), .second] [(Value.double (FP.l2d (g 0))), (Value.double (FP.l2d (0 : Int64)))]))
  refine own_dadd X0 hx hby (own_R.z.b53 (by decide)) ((hR 0).b53 (by decide)) own_d1_27 ?_
  show own_G p e below s _ _ _ (s₁.setTop (mkF m 28 #[.val (Value.ref a), .val (Value.double (FP.l2d (0 : Int64))), .second, .val (Value.ref a), .val (Value.int (1 : Int32)), .val (Value.int (0 : Int32)), .val (Value.double (FP.l2d (g 0))), .second] [(Value.double (FP.l2d ((0 : Int64) + (g 0))))]))
  refine own_dstoreN X0 hx hby own_d1_28 (l' := #[.val (Value.ref a), .val (Value.double (FP.l2d ((0 : Int64) + (g 0)))), .second, .val (Value.ref a), .val (Value.int (1 : Int32)), .val (Value.int (0 : Int32)), .val (Value.double (FP.l2d (g 0))), .second]) rfl ?_
  show own_G p e below s _ _ _ (s₁.setTop (mkF m 29 #[.val (Value.ref a), .val (Value.double (FP.l2d ((0 : Int64) + (g 0)))), .second, .val (Value.ref a), .val (Value.int (1 : Int32)), .val (Value.int (0 : Int32)), .val (Value.double (FP.l2d (g 0))), .second] []))
  refine own_iinc X0 hx hby own_d1_29 rfl (l' := #[.val (Value.ref a), .val (Value.double (FP.l2d ((0 : Int64) + (g 0)))), .second, .val (Value.ref a), .val (Value.int (1 : Int32)), .val (Value.int (1 : Int32)), .val (Value.double (FP.l2d (g 0))), .second]) rfl ?_
  show own_G p e below s _ _ _ (s₁.setTop (mkF m 32 #[.val (Value.ref a), .val (Value.double (FP.l2d ((0 : Int64) + (g 0)))), .second, .val (Value.ref a), .val (Value.int (1 : Int32)), .val (Value.int (1 : Int32)), .val (Value.double (FP.l2d (g 0))), .second] []))
  refine own_goto X0 hx hby own_d1_32 (pc' := 11) (by decide) (by decide) ?_
  show own_G p e below s _ _ _ (s₁.setTop (mkF m 11 #[.val (Value.ref a), .val (Value.double (FP.l2d ((0 : Int64) + (g 0)))), .second, .val (Value.ref a), .val (Value.int (1 : Int32)), .val (Value.int (1 : Int32)), .val (Value.double (FP.l2d (g 0))), .second] []))
  refine own_iload X0 hx hby own_d1_11 rfl ?_
  show own_G p e below s _ _ _ (s₁.setTop (mkF m 13 #[.val (Value.ref a), .val (Value.double (FP.l2d ((0 : Int64) + (g 0)))), .second, .val (Value.ref a), .val (Value.int (1 : Int32)), .val (Value.int (1 : Int32)), .val (Value.double (FP.l2d (g 0))), .second] [(Value.int (1 : Int32))]))
  refine own_iload X0 hx hby own_d1_13 rfl ?_
  show own_G p e below s _ _ _ (s₁.setTop (mkF m 15 #[.val (Value.ref a), .val (Value.double (FP.l2d ((0 : Int64) + (g 0)))), .second, .val (Value.ref a), .val (Value.int (1 : Int32)), .val (Value.int (1 : Int32)), .val (Value.double (FP.l2d (g 0))), .second] [(Value.int (1 : Int32)), (Value.int (1 : Int32))]))
  refine own_icmp_ge X0 hx hby own_d1_15 (pc' := 35) (by decide) (by decide) (fun hb2 => ?_) (fun hb2 => by exfalso; revert hb2; decide)
  show own_G p e below s _ _ _ (s₁.setTop (mkF m 35 #[.val (Value.ref a), .val (Value.double (FP.l2d ((0 : Int64) + (g 0)))), .second, .val (Value.ref a), .val (Value.int (1 : Int32)), .val (Value.int (1 : Int32)), .val (Value.double (FP.l2d (g 0))), .second] []))
  refine own_dloadN X0 hx hby own_d1_35 rfl ?_
  show own_G p e below s _ _ _ (s₁.setTop (mkF m 36 #[.val (Value.ref a), .val (Value.double (FP.l2d ((0 : Int64) + (g 0)))), .second, .val (Value.ref a), .val (Value.int (1 : Int32)), .val (Value.int (1 : Int32)), .val (Value.double (FP.l2d (g 0))), .second] [(Value.double (FP.l2d ((0 : Int64) + (g 0))))]))
  refine own_retD X0 hx hby hlk Bd.returns own_d1_36 (by decide) (by decide) ?_
  refine ⟨?_, e0, N0⟩
  show some (Value.double (FP.l2d ((0 : Int64) + (g 0)))) = _
  rfl
def own_rmS2_Q (Z : State) (a : Addr) (g : Nat → Int64) (h0 : Heap) (n0 : Nat) : Option Value → Heap → List Loc → Prop := fun v h L => v = some (Value.double (FP.l2d (((0 : Int64) + (g 0)) + (g 1)))) ∧ h = h0 ∧ Fr n0 L
theorem own_rmS2_ef (m : MethodId) (a : Addr)  : entryFrame m #[(Value.ref a)] 8 = mkF m 0 #[.val (Value.ref a), .unset, .unset, .unset, .unset, .unset, .unset, .unset] [] := by first | (simp [entryFrame, mkF, argsToLocals, Value.category]; done) | rfl
set_option maxRecDepth 65536 in
set_option maxHeartbeats 40000000 in
theorem own_rmS2 (l : Launch) (Z : State) (a0 : Array Value) (hw : ∀ d ∈ tables_1, d.before a0 Z = true) (ws : List Jvm.Cond) (a : Addr) (g : Nat → Int64) (h0 : Heap) (n0 : Nat) (O0 : Old Z n0 h0) (A_a : own_Ar Z h0 a .double 2 (fun j => .double (FP.l2d (g j)))) (hR : ∀ j, own_R 2147483648 (g j)) :
    MetFree l (⟨"com/example/wattfloor/wattfloor/market/Vectors", "sum", "([D)D"⟩ : MethodName) (head1 (Jvm.Cond.code (⟨"com/example/wattfloor/wattfloor/market/Vectors", "sum", "([D)D"⟩ : MethodName) prog_127_method_2_code 8 (some .double) :: ws) ({ frames := 0, cells := 0, slots := 0, locals := 0 } : Room)) (fun aa_ U => aa_ = #[(Value.ref a)] ∧ Z.Warmed39 U.vm ∧ U.heap = h0) (fun _ _ _ _ _ => True) (fun _ UU_ oo_ UX_ => ∃ vv_ LL_, oo_ = .returned vv_ ∧ (own_rmS2_Q Z a g h0 n0) vv_ UX_.heap LL_ ∧ FrameEnd UU_ oo_ UX_ LL_ ({ frames := 0, cells := 0, slots := 0, locals := 0 } : Room).cells ({ frames := 0, cells := 0, slots := 0, locals := 0 } : Room).slots) := by
  refine MetFree.of_bodySF (plainFor_of_name own_pn0) hisR ?_
  intro p e s m args below meth c s₁ Bd hml0 hP hK
  obtain ⟨rfl, hZ, hh⟩ := hP
  have hx := Bd.exec
  have hby := Bd.bytes
  have hml : c.maxLocals = 8 := hml0
  have hown : s.vm.findClass "com/example/wattfloor/wattfloor/market/Vectors" = some m.cls := findClass_of_methodNamed Bd.named
  have hnm := (name_of_methodNamed Bd.named Bd.method).1
  have hlk : meth.locks = false := BodyLoose.notSynchronized Bd
  have X0 : Stand p l e ({ frames := 0, cells := 0, slots := 0, locals := 0 } : Room) s m #[(Value.ref a)] below meth c s₁ [] 0 0 := Stand.of_body Bd
  have e0 : s₁.heap = h0 := by rw [← hh, Bd.state]; rfl
  have N0 := Fr.nil n0
  show own_G p e below s (own_rmS2_Q Z a g h0 n0) ({ frames := 0, cells := 0, slots := 0, locals := 0 } : Room).cells ({ frames := 0, cells := 0, slots := 0, locals := 0 } : Room).slots (s₁.setTop (entryFrame m #[(Value.ref a)] 8))
  refine own_cast (own_rmS2_ef m a ) ?_
  show own_G p e below s _ _ _ (s₁.setTop (mkF m 0 #[.val (Value.ref a), .unset, .unset, .unset, .unset, .unset, .unset, .unset] []))
  refine own_dconst0 X0 hx hby own_d1_0 ?_
  show own_G p e below s _ _ _ (s₁.setTop (mkF m 1 #[.val (Value.ref a), .unset, .unset, .unset, .unset, .unset, .unset, .unset] [(Value.double (FP.l2d (0 : Int64)))]))
  refine own_dstoreN X0 hx hby own_d1_1 (l' := #[.val (Value.ref a), .val (Value.double (FP.l2d (0 : Int64))), .second, .unset, .unset, .unset, .unset, .unset]) rfl ?_
  show own_G p e below s _ _ _ (s₁.setTop (mkF m 2 #[.val (Value.ref a), .val (Value.double (FP.l2d (0 : Int64))), .second, .unset, .unset, .unset, .unset, .unset] []))
  refine own_aloadN X0 hx hby own_d1_2 rfl rfl ?_
  show own_G p e below s _ _ _ (s₁.setTop (mkF m 3 #[.val (Value.ref a), .val (Value.double (FP.l2d (0 : Int64))), .second, .unset, .unset, .unset, .unset, .unset] [(Value.ref a)]))
  refine own_astoreN X0 hx hby own_d1_3 rfl (l' := #[.val (Value.ref a), .val (Value.double (FP.l2d (0 : Int64))), .second, .val (Value.ref a), .unset, .unset, .unset, .unset]) rfl ?_
  show own_G p e below s _ _ _ (s₁.setTop (mkF m 4 #[.val (Value.ref a), .val (Value.double (FP.l2d (0 : Int64))), .second, .val (Value.ref a), .unset, .unset, .unset, .unset] []))
  refine own_aloadN X0 hx hby own_d1_4 rfl rfl ?_
  show own_G p e below s _ _ _ (s₁.setTop (mkF m 5 #[.val (Value.ref a), .val (Value.double (FP.l2d (0 : Int64))), .second, .val (Value.ref a), .unset, .unset, .unset, .unset] [(Value.ref a)]))
  refine own_alen X0 hx hby hZ e0 A_a own_d1_5 ?_
  show own_G p e below s _ _ _ (s₁.setTop (mkF m 6 #[.val (Value.ref a), .val (Value.double (FP.l2d (0 : Int64))), .second, .val (Value.ref a), .unset, .unset, .unset, .unset] [(Value.int (2 : Int32))]))
  refine own_istore X0 hx hby own_d1_6 (l' := #[.val (Value.ref a), .val (Value.double (FP.l2d (0 : Int64))), .second, .val (Value.ref a), .val (Value.int (2 : Int32)), .unset, .unset, .unset]) rfl ?_
  show own_G p e below s _ _ _ (s₁.setTop (mkF m 8 #[.val (Value.ref a), .val (Value.double (FP.l2d (0 : Int64))), .second, .val (Value.ref a), .val (Value.int (2 : Int32)), .unset, .unset, .unset] []))
  refine own_iconst X0 hx hby own_d1_8 ?_
  show own_G p e below s _ _ _ (s₁.setTop (mkF m 9 #[.val (Value.ref a), .val (Value.double (FP.l2d (0 : Int64))), .second, .val (Value.ref a), .val (Value.int (2 : Int32)), .unset, .unset, .unset] [(Value.int (0 : Int32))]))
  refine own_istore X0 hx hby own_d1_9 (l' := #[.val (Value.ref a), .val (Value.double (FP.l2d (0 : Int64))), .second, .val (Value.ref a), .val (Value.int (2 : Int32)), .val (Value.int (0 : Int32)), .unset, .unset]) rfl ?_
  show own_G p e below s _ _ _ (s₁.setTop (mkF m 11 #[.val (Value.ref a), .val (Value.double (FP.l2d (0 : Int64))), .second, .val (Value.ref a), .val (Value.int (2 : Int32)), .val (Value.int (0 : Int32)), .unset, .unset] []))
  refine own_iload X0 hx hby own_d1_11 rfl ?_
  show own_G p e below s _ _ _ (s₁.setTop (mkF m 13 #[.val (Value.ref a), .val (Value.double (FP.l2d (0 : Int64))), .second, .val (Value.ref a), .val (Value.int (2 : Int32)), .val (Value.int (0 : Int32)), .unset, .unset] [(Value.int (0 : Int32))]))
  refine own_iload X0 hx hby own_d1_13 rfl ?_
  show own_G p e below s _ _ _ (s₁.setTop (mkF m 15 #[.val (Value.ref a), .val (Value.double (FP.l2d (0 : Int64))), .second, .val (Value.ref a), .val (Value.int (2 : Int32)), .val (Value.int (0 : Int32)), .unset, .unset] [(Value.int (2 : Int32)), (Value.int (0 : Int32))]))
  refine own_icmp_ge X0 hx hby own_d1_15 (pc' := 35) (by decide) (by decide) (fun hb1 => by exfalso; revert hb1; decide) (fun hb1 => ?_)
  show own_G p e below s _ _ _ (s₁.setTop (mkF m 18 #[.val (Value.ref a), .val (Value.double (FP.l2d (0 : Int64))), .second, .val (Value.ref a), .val (Value.int (2 : Int32)), .val (Value.int (0 : Int32)), .unset, .unset] []))
  refine own_aloadN X0 hx hby own_d1_18 rfl rfl ?_
  show own_G p e below s _ _ _ (s₁.setTop (mkF m 19 #[.val (Value.ref a), .val (Value.double (FP.l2d (0 : Int64))), .second, .val (Value.ref a), .val (Value.int (2 : Int32)), .val (Value.int (0 : Int32)), .unset, .unset] [(Value.ref a)]))
  refine own_iload X0 hx hby own_d1_19 rfl ?_
  show own_G p e below s _ _ _ (s₁.setTop (mkF m 21 #[.val (Value.ref a), .val (Value.double (FP.l2d (0 : Int64))), .second, .val (Value.ref a), .val (Value.int (2 : Int32)), .val (Value.int (0 : Int32)), .unset, .unset] [(Value.int (0 : Int32)), (Value.ref a)]))
  refine own_daload X0 hx hby hZ e0 A_a (j := (0 : Int32)) (i := 0) (by decide) (by decide) own_d1_21 ?_
  show own_G p e below s _ _ _ (s₁.setTop (mkF m 22 #[.val (Value.ref a), .val (Value.double (FP.l2d (0 : Int64))), .second, .val (Value.ref a), .val (Value.int (2 : Int32)), .val (Value.int (0 : Int32)), .unset, .unset] [(Value.double (FP.l2d (g 0)))]))
  refine own_dstore X0 hx hby own_d1_22 (l' := #[.val (Value.ref a), .val (Value.double (FP.l2d (0 : Int64))), .second, .val (Value.ref a), .val (Value.int (2 : Int32)), .val (Value.int (0 : Int32)), .val (Value.double (FP.l2d (g 0))), .second]) rfl ?_
  show own_G p e below s _ _ _ (s₁.setTop (mkF m 24 #[.val (Value.ref a), .val (Value.double (FP.l2d (0 : Int64))), .second, .val (Value.ref a), .val (Value.int (2 : Int32)), .val (Value.int (0 : Int32)), .val (Value.double (FP.l2d (g 0))), .second] []))
  refine own_dloadN X0 hx hby own_d1_24 rfl ?_
  show own_G p e below s _ _ _ (s₁.setTop (mkF m 25 #[.val (Value.ref a), .val (Value.double (FP.l2d (0 : Int64))), .second, .val (Value.ref a), .val (Value.int (2 : Int32)), .val (Value.int (0 : Int32)), .val (Value.double (FP.l2d (g 0))), .second] [(Value.double (FP.l2d (0 : Int64)))]))
  refine own_dload X0 hx hby own_d1_25 rfl ?_
  show own_G p e below s _ _ _ (s₁.setTop (mkF m 27 #[.val (Value.ref a), .val (Value.double (FP.l2d (0 : Int64))), .second, .val (Value.ref a), .val (Value.int (2 : Int32)), .val (Value.int (0 : Int32)), .val (Value.double (FP.l2d (g 0))), .second] [(Value.double (FP.l2d (g 0))), (Value.double (FP.l2d (0 : Int64)))]))
  refine own_dadd X0 hx hby (own_R.z.b53 (by decide)) ((hR 0).b53 (by decide)) own_d1_27 ?_
  show own_G p e below s _ _ _ (s₁.setTop (mkF m 28 #[.val (Value.ref a), .val (Value.double (FP.l2d (0 : Int64))), .second, .val (Value.ref a), .val (Value.int (2 : Int32)), .val (Value.int (0 : Int32)), .val (Value.double (FP.l2d (g 0))), .second] [(Value.double (FP.l2d ((0 : Int64) + (g 0))))]))
  refine own_dstoreN X0 hx hby own_d1_28 (l' := #[.val (Value.ref a), .val (Value.double (FP.l2d ((0 : Int64) + (g 0)))), .second, .val (Value.ref a), .val (Value.int (2 : Int32)), .val (Value.int (0 : Int32)), .val (Value.double (FP.l2d (g 0))), .second]) rfl ?_
  show own_G p e below s _ _ _ (s₁.setTop (mkF m 29 #[.val (Value.ref a), .val (Value.double (FP.l2d ((0 : Int64) + (g 0)))), .second, .val (Value.ref a), .val (Value.int (2 : Int32)), .val (Value.int (0 : Int32)), .val (Value.double (FP.l2d (g 0))), .second] []))
  refine own_iinc X0 hx hby own_d1_29 rfl (l' := #[.val (Value.ref a), .val (Value.double (FP.l2d ((0 : Int64) + (g 0)))), .second, .val (Value.ref a), .val (Value.int (2 : Int32)), .val (Value.int (1 : Int32)), .val (Value.double (FP.l2d (g 0))), .second]) rfl ?_
  show own_G p e below s _ _ _ (s₁.setTop (mkF m 32 #[.val (Value.ref a), .val (Value.double (FP.l2d ((0 : Int64) + (g 0)))), .second, .val (Value.ref a), .val (Value.int (2 : Int32)), .val (Value.int (1 : Int32)), .val (Value.double (FP.l2d (g 0))), .second] []))
  refine own_goto X0 hx hby own_d1_32 (pc' := 11) (by decide) (by decide) ?_
  show own_G p e below s _ _ _ (s₁.setTop (mkF m 11 #[.val (Value.ref a), .val (Value.double (FP.l2d ((0 : Int64) + (g 0)))), .second, .val (Value.ref a), .val (Value.int (2 : Int32)), .val (Value.int (1 : Int32)), .val (Value.double (FP.l2d (g 0))), .second] []))
  refine own_iload X0 hx hby own_d1_11 rfl ?_
  show own_G p e below s _ _ _ (s₁.setTop (mkF m 13 #[.val (Value.ref a), .val (Value.double (FP.l2d ((0 : Int64) + (g 0)))), .second, .val (Value.ref a), .val (Value.int (2 : Int32)), .val (Value.int (1 : Int32)), .val (Value.double (FP.l2d (g 0))), .second] [(Value.int (1 : Int32))]))
  refine own_iload X0 hx hby own_d1_13 rfl ?_
  show own_G p e below s _ _ _ (s₁.setTop (mkF m 15 #[.val (Value.ref a), .val (Value.double (FP.l2d ((0 : Int64) + (g 0)))), .second, .val (Value.ref a), .val (Value.int (2 : Int32)), .val (Value.int (1 : Int32)), .val (Value.double (FP.l2d (g 0))), .second] [(Value.int (2 : Int32)), (Value.int (1 : Int32))]))
  refine own_icmp_ge X0 hx hby own_d1_15 (pc' := 35) (by decide) (by decide) (fun hb2 => by exfalso; revert hb2; decide) (fun hb2 => ?_)
  show own_G p e below s _ _ _ (s₁.setTop (mkF m 18 #[.val (Value.ref a), .val (Value.double (FP.l2d ((0 : Int64) + (g 0)))), .second, .val (Value.ref a), .val (Value.int (2 : Int32)), .val (Value.int (1 : Int32)), .val (Value.double (FP.l2d (g 0))), .second] []))
  refine own_aloadN X0 hx hby own_d1_18 rfl rfl ?_
  show own_G p e below s _ _ _ (s₁.setTop (mkF m 19 #[.val (Value.ref a), .val (Value.double (FP.l2d ((0 : Int64) + (g 0)))), .second, .val (Value.ref a), .val (Value.int (2 : Int32)), .val (Value.int (1 : Int32)), .val (Value.double (FP.l2d (g 0))), .second] [(Value.ref a)]))
  refine own_iload X0 hx hby own_d1_19 rfl ?_
  show own_G p e below s _ _ _ (s₁.setTop (mkF m 21 #[.val (Value.ref a), .val (Value.double (FP.l2d ((0 : Int64) + (g 0)))), .second, .val (Value.ref a), .val (Value.int (2 : Int32)), .val (Value.int (1 : Int32)), .val (Value.double (FP.l2d (g 0))), .second] [(Value.int (1 : Int32)), (Value.ref a)]))
  refine own_daload X0 hx hby hZ e0 A_a (j := (1 : Int32)) (i := 1) (by decide) (by decide) own_d1_21 ?_
  show own_G p e below s _ _ _ (s₁.setTop (mkF m 22 #[.val (Value.ref a), .val (Value.double (FP.l2d ((0 : Int64) + (g 0)))), .second, .val (Value.ref a), .val (Value.int (2 : Int32)), .val (Value.int (1 : Int32)), .val (Value.double (FP.l2d (g 0))), .second] [(Value.double (FP.l2d (g 1)))]))
  refine own_dstore X0 hx hby own_d1_22 (l' := #[.val (Value.ref a), .val (Value.double (FP.l2d ((0 : Int64) + (g 0)))), .second, .val (Value.ref a), .val (Value.int (2 : Int32)), .val (Value.int (1 : Int32)), .val (Value.double (FP.l2d (g 1))), .second]) rfl ?_
  show own_G p e below s _ _ _ (s₁.setTop (mkF m 24 #[.val (Value.ref a), .val (Value.double (FP.l2d ((0 : Int64) + (g 0)))), .second, .val (Value.ref a), .val (Value.int (2 : Int32)), .val (Value.int (1 : Int32)), .val (Value.double (FP.l2d (g 1))), .second] []))
  refine own_dloadN X0 hx hby own_d1_24 rfl ?_
  show own_G p e below s _ _ _ (s₁.setTop (mkF m 25 #[.val (Value.ref a), .val (Value.double (FP.l2d ((0 : Int64) + (g 0)))), .second, .val (Value.ref a), .val (Value.int (2 : Int32)), .val (Value.int (1 : Int32)), .val (Value.double (FP.l2d (g 1))), .second] [(Value.double (FP.l2d ((0 : Int64) + (g 0))))]))
  refine own_dload X0 hx hby own_d1_25 rfl ?_
  show own_G p e below s _ _ _ (s₁.setTop (mkF m 27 #[.val (Value.ref a), .val (Value.double (FP.l2d ((0 : Int64) + (g 0)))), .second, .val (Value.ref a), .val (Value.int (2 : Int32)), .val (Value.int (1 : Int32)), .val (Value.double (FP.l2d (g 1))), .second] [(Value.double (FP.l2d (g 1))), (Value.double (FP.l2d ((0 : Int64) + (g 0))))]))
  refine own_dadd X0 hx hby ((own_R.add own_R.z (hR 0) (by decide)).b53 (by decide)) ((hR 1).b53 (by decide)) own_d1_27 ?_
  show own_G p e below s _ _ _ (s₁.setTop (mkF m 28 #[.val (Value.ref a), .val (Value.double (FP.l2d ((0 : Int64) + (g 0)))), .second, .val (Value.ref a), .val (Value.int (2 : Int32)), .val (Value.int (1 : Int32)), .val (Value.double (FP.l2d (g 1))), .second] [(Value.double (FP.l2d (((0 : Int64) + (g 0)) + (g 1))))]))
  refine own_dstoreN X0 hx hby own_d1_28 (l' := #[.val (Value.ref a), .val (Value.double (FP.l2d (((0 : Int64) + (g 0)) + (g 1)))), .second, .val (Value.ref a), .val (Value.int (2 : Int32)), .val (Value.int (1 : Int32)), .val (Value.double (FP.l2d (g 1))), .second]) rfl ?_
  show own_G p e below s _ _ _ (s₁.setTop (mkF m 29 #[.val (Value.ref a), .val (Value.double (FP.l2d (((0 : Int64) + (g 0)) + (g 1)))), .second, .val (Value.ref a), .val (Value.int (2 : Int32)), .val (Value.int (1 : Int32)), .val (Value.double (FP.l2d (g 1))), .second] []))
  refine own_iinc X0 hx hby own_d1_29 rfl (l' := #[.val (Value.ref a), .val (Value.double (FP.l2d (((0 : Int64) + (g 0)) + (g 1)))), .second, .val (Value.ref a), .val (Value.int (2 : Int32)), .val (Value.int (2 : Int32)), .val (Value.double (FP.l2d (g 1))), .second]) rfl ?_
  show own_G p e below s _ _ _ (s₁.setTop (mkF m 32 #[.val (Value.ref a), .val (Value.double (FP.l2d (((0 : Int64) + (g 0)) + (g 1)))), .second, .val (Value.ref a), .val (Value.int (2 : Int32)), .val (Value.int (2 : Int32)), .val (Value.double (FP.l2d (g 1))), .second] []))
  refine own_goto X0 hx hby own_d1_32 (pc' := 11) (by decide) (by decide) ?_
  show own_G p e below s _ _ _ (s₁.setTop (mkF m 11 #[.val (Value.ref a), .val (Value.double (FP.l2d (((0 : Int64) + (g 0)) + (g 1)))), .second, .val (Value.ref a), .val (Value.int (2 : Int32)), .val (Value.int (2 : Int32)), .val (Value.double (FP.l2d (g 1))), .second] []))
  refine own_iload X0 hx hby own_d1_11 rfl ?_
  show own_G p e below s _ _ _ (s₁.setTop (mkF m 13 #[.val (Value.ref a), .val (Value.double (FP.l2d (((0 : Int64) + (g 0)) + (g 1)))), .second, .val (Value.ref a), .val (Value.int (2 : Int32)), .val (Value.int (2 : Int32)), .val (Value.double (FP.l2d (g 1))), .second] [(Value.int (2 : Int32))]))
  refine own_iload X0 hx hby own_d1_13 rfl ?_
  show own_G p e below s _ _ _ (s₁.setTop (mkF m 15 #[.val (Value.ref a), .val (Value.double (FP.l2d (((0 : Int64) + (g 0)) + (g 1)))), .second, .val (Value.ref a), .val (Value.int (2 : Int32)), .val (Value.int (2 : Int32)), .val (Value.double (FP.l2d (g 1))), .second] [(Value.int (2 : Int32)), (Value.int (2 : Int32))]))
  refine own_icmp_ge X0 hx hby own_d1_15 (pc' := 35) (by decide) (by decide) (fun hb3 => ?_) (fun hb3 => by exfalso; revert hb3; decide)
  show own_G p e below s _ _ _ (s₁.setTop (mkF m 35 #[.val (Value.ref a), .val (Value.double (FP.l2d (((0 : Int64) + (g 0)) + (g 1)))), .second, .val (Value.ref a), .val (Value.int (2 : Int32)), .val (Value.int (2 : Int32)), .val (Value.double (FP.l2d (g 1))), .second] []))
  refine own_dloadN X0 hx hby own_d1_35 rfl ?_
  show own_G p e below s _ _ _ (s₁.setTop (mkF m 36 #[.val (Value.ref a), .val (Value.double (FP.l2d (((0 : Int64) + (g 0)) + (g 1)))), .second, .val (Value.ref a), .val (Value.int (2 : Int32)), .val (Value.int (2 : Int32)), .val (Value.double (FP.l2d (g 1))), .second] [(Value.double (FP.l2d (((0 : Int64) + (g 0)) + (g 1))))]))
  refine own_retD X0 hx hby hlk Bd.returns own_d1_36 (by decide) (by decide) ?_
  refine ⟨?_, e0, N0⟩
  show some (Value.double (FP.l2d (((0 : Int64) + (g 0)) + (g 1)))) = _
  rfl
def own_rmS3_Q (Z : State) (a : Addr) (g : Nat → Int64) (h0 : Heap) (n0 : Nat) : Option Value → Heap → List Loc → Prop := fun v h L => v = some (Value.double (FP.l2d ((((0 : Int64) + (g 0)) + (g 1)) + (g 2)))) ∧ h = h0 ∧ Fr n0 L
theorem own_rmS3_ef (m : MethodId) (a : Addr)  : entryFrame m #[(Value.ref a)] 8 = mkF m 0 #[.val (Value.ref a), .unset, .unset, .unset, .unset, .unset, .unset, .unset] [] := by first | (simp [entryFrame, mkF, argsToLocals, Value.category]; done) | rfl
set_option maxRecDepth 65536 in
set_option maxHeartbeats 40000000 in
theorem own_rmS3 (l : Launch) (Z : State) (a0 : Array Value) (hw : ∀ d ∈ tables_1, d.before a0 Z = true) (ws : List Jvm.Cond) (a : Addr) (g : Nat → Int64) (h0 : Heap) (n0 : Nat) (O0 : Old Z n0 h0) (A_a : own_Ar Z h0 a .double 3 (fun j => .double (FP.l2d (g j)))) (hR : ∀ j, own_R 2147483648 (g j)) :
    MetFree l (⟨"com/example/wattfloor/wattfloor/market/Vectors", "sum", "([D)D"⟩ : MethodName) (head1 (Jvm.Cond.code (⟨"com/example/wattfloor/wattfloor/market/Vectors", "sum", "([D)D"⟩ : MethodName) prog_127_method_2_code 8 (some .double) :: ws) ({ frames := 0, cells := 0, slots := 0, locals := 0 } : Room)) (fun aa_ U => aa_ = #[(Value.ref a)] ∧ Z.Warmed39 U.vm ∧ U.heap = h0) (fun _ _ _ _ _ => True) (fun _ UU_ oo_ UX_ => ∃ vv_ LL_, oo_ = .returned vv_ ∧ (own_rmS3_Q Z a g h0 n0) vv_ UX_.heap LL_ ∧ FrameEnd UU_ oo_ UX_ LL_ ({ frames := 0, cells := 0, slots := 0, locals := 0 } : Room).cells ({ frames := 0, cells := 0, slots := 0, locals := 0 } : Room).slots) := by
  refine MetFree.of_bodySF (plainFor_of_name own_pn0) hisR ?_
  intro p e s m args below meth c s₁ Bd hml0 hP hK
  obtain ⟨rfl, hZ, hh⟩ := hP
  have hx := Bd.exec
  have hby := Bd.bytes
  have hml : c.maxLocals = 8 := hml0
  have hown : s.vm.findClass "com/example/wattfloor/wattfloor/market/Vectors" = some m.cls := findClass_of_methodNamed Bd.named
  have hnm := (name_of_methodNamed Bd.named Bd.method).1
  have hlk : meth.locks = false := BodyLoose.notSynchronized Bd
  have X0 : Stand p l e ({ frames := 0, cells := 0, slots := 0, locals := 0 } : Room) s m #[(Value.ref a)] below meth c s₁ [] 0 0 := Stand.of_body Bd
  have e0 : s₁.heap = h0 := by rw [← hh, Bd.state]; rfl
  have N0 := Fr.nil n0
  show own_G p e below s (own_rmS3_Q Z a g h0 n0) ({ frames := 0, cells := 0, slots := 0, locals := 0 } : Room).cells ({ frames := 0, cells := 0, slots := 0, locals := 0 } : Room).slots (s₁.setTop (entryFrame m #[(Value.ref a)] 8))
  refine own_cast (own_rmS3_ef m a ) ?_
  show own_G p e below s _ _ _ (s₁.setTop (mkF m 0 #[.val (Value.ref a), .unset, .unset, .unset, .unset, .unset, .unset, .unset] []))
  refine own_dconst0 X0 hx hby own_d1_0 ?_
  show own_G p e below s _ _ _ (s₁.setTop (mkF m 1 #[.val (Value.ref a), .unset, .unset, .unset, .unset, .unset, .unset, .unset] [(Value.double (FP.l2d (0 : Int64)))]))
  refine own_dstoreN X0 hx hby own_d1_1 (l' := #[.val (Value.ref a), .val (Value.double (FP.l2d (0 : Int64))), .second, .unset, .unset, .unset, .unset, .unset]) rfl ?_
  show own_G p e below s _ _ _ (s₁.setTop (mkF m 2 #[.val (Value.ref a), .val (Value.double (FP.l2d (0 : Int64))), .second, .unset, .unset, .unset, .unset, .unset] []))
  refine own_aloadN X0 hx hby own_d1_2 rfl rfl ?_
  show own_G p e below s _ _ _ (s₁.setTop (mkF m 3 #[.val (Value.ref a), .val (Value.double (FP.l2d (0 : Int64))), .second, .unset, .unset, .unset, .unset, .unset] [(Value.ref a)]))
  refine own_astoreN X0 hx hby own_d1_3 rfl (l' := #[.val (Value.ref a), .val (Value.double (FP.l2d (0 : Int64))), .second, .val (Value.ref a), .unset, .unset, .unset, .unset]) rfl ?_
  show own_G p e below s _ _ _ (s₁.setTop (mkF m 4 #[.val (Value.ref a), .val (Value.double (FP.l2d (0 : Int64))), .second, .val (Value.ref a), .unset, .unset, .unset, .unset] []))
  refine own_aloadN X0 hx hby own_d1_4 rfl rfl ?_
  show own_G p e below s _ _ _ (s₁.setTop (mkF m 5 #[.val (Value.ref a), .val (Value.double (FP.l2d (0 : Int64))), .second, .val (Value.ref a), .unset, .unset, .unset, .unset] [(Value.ref a)]))
  refine own_alen X0 hx hby hZ e0 A_a own_d1_5 ?_
  show own_G p e below s _ _ _ (s₁.setTop (mkF m 6 #[.val (Value.ref a), .val (Value.double (FP.l2d (0 : Int64))), .second, .val (Value.ref a), .unset, .unset, .unset, .unset] [(Value.int (3 : Int32))]))
  refine own_istore X0 hx hby own_d1_6 (l' := #[.val (Value.ref a), .val (Value.double (FP.l2d (0 : Int64))), .second, .val (Value.ref a), .val (Value.int (3 : Int32)), .unset, .unset, .unset]) rfl ?_
  show own_G p e below s _ _ _ (s₁.setTop (mkF m 8 #[.val (Value.ref a), .val (Value.double (FP.l2d (0 : Int64))), .second, .val (Value.ref a), .val (Value.int (3 : Int32)), .unset, .unset, .unset] []))
  refine own_iconst X0 hx hby own_d1_8 ?_
  show own_G p e below s _ _ _ (s₁.setTop (mkF m 9 #[.val (Value.ref a), .val (Value.double (FP.l2d (0 : Int64))), .second, .val (Value.ref a), .val (Value.int (3 : Int32)), .unset, .unset, .unset] [(Value.int (0 : Int32))]))
  refine own_istore X0 hx hby own_d1_9 (l' := #[.val (Value.ref a), .val (Value.double (FP.l2d (0 : Int64))), .second, .val (Value.ref a), .val (Value.int (3 : Int32)), .val (Value.int (0 : Int32)), .unset, .unset]) rfl ?_
  show own_G p e below s _ _ _ (s₁.setTop (mkF m 11 #[.val (Value.ref a), .val (Value.double (FP.l2d (0 : Int64))), .second, .val (Value.ref a), .val (Value.int (3 : Int32)), .val (Value.int (0 : Int32)), .unset, .unset] []))
  refine own_iload X0 hx hby own_d1_11 rfl ?_
  show own_G p e below s _ _ _ (s₁.setTop (mkF m 13 #[.val (Value.ref a), .val (Value.double (FP.l2d (0 : Int64))), .second, .val (Value.ref a), .val (Value.int (3 : Int32)), .val (Value.int (0 : Int32)), .unset, .unset] [(Value.int (0 : Int32))]))
  refine own_iload X0 hx hby own_d1_13 rfl ?_
  show own_G p e below s _ _ _ (s₁.setTop (mkF m 15 #[.val (Value.ref a), .val (Value.double (FP.l2d (0 : Int64))), .second, .val (Value.ref a), .val (Value.int (3 : Int32)), .val (Value.int (0 : Int32)), .unset, .unset] [(Value.int (3 : Int32)), (Value.int (0 : Int32))]))
  refine own_icmp_ge X0 hx hby own_d1_15 (pc' := 35) (by decide) (by decide) (fun hb1 => by exfalso; revert hb1; decide) (fun hb1 => ?_)
  show own_G p e below s _ _ _ (s₁.setTop (mkF m 18 #[.val (Value.ref a), .val (Value.double (FP.l2d (0 : Int64))), .second, .val (Value.ref a), .val (Value.int (3 : Int32)), .val (Value.int (0 : Int32)), .unset, .unset] []))
  refine own_aloadN X0 hx hby own_d1_18 rfl rfl ?_
  show own_G p e below s _ _ _ (s₁.setTop (mkF m 19 #[.val (Value.ref a), .val (Value.double (FP.l2d (0 : Int64))), .second, .val (Value.ref a), .val (Value.int (3 : Int32)), .val (Value.int (0 : Int32)), .unset, .unset] [(Value.ref a)]))
  refine own_iload X0 hx hby own_d1_19 rfl ?_
  show own_G p e below s _ _ _ (s₁.setTop (mkF m 21 #[.val (Value.ref a), .val (Value.double (FP.l2d (0 : Int64))), .second, .val (Value.ref a), .val (Value.int (3 : Int32)), .val (Value.int (0 : Int32)), .unset, .unset] [(Value.int (0 : Int32)), (Value.ref a)]))
  refine own_daload X0 hx hby hZ e0 A_a (j := (0 : Int32)) (i := 0) (by decide) (by decide) own_d1_21 ?_
  show own_G p e below s _ _ _ (s₁.setTop (mkF m 22 #[.val (Value.ref a), .val (Value.double (FP.l2d (0 : Int64))), .second, .val (Value.ref a), .val (Value.int (3 : Int32)), .val (Value.int (0 : Int32)), .unset, .unset] [(Value.double (FP.l2d (g 0)))]))
  refine own_dstore X0 hx hby own_d1_22 (l' := #[.val (Value.ref a), .val (Value.double (FP.l2d (0 : Int64))), .second, .val (Value.ref a), .val (Value.int (3 : Int32)), .val (Value.int (0 : Int32)), .val (Value.double (FP.l2d (g 0))), .second]) rfl ?_
  show own_G p e below s _ _ _ (s₁.setTop (mkF m 24 #[.val (Value.ref a), .val (Value.double (FP.l2d (0 : Int64))), .second, .val (Value.ref a), .val (Value.int (3 : Int32)), .val (Value.int (0 : Int32)), .val (Value.double (FP.l2d (g 0))), .second] []))
  refine own_dloadN X0 hx hby own_d1_24 rfl ?_
  show own_G p e below s _ _ _ (s₁.setTop (mkF m 25 #[.val (Value.ref a), .val (Value.double (FP.l2d (0 : Int64))), .second, .val (Value.ref a), .val (Value.int (3 : Int32)), .val (Value.int (0 : Int32)), .val (Value.double (FP.l2d (g 0))), .second] [(Value.double (FP.l2d (0 : Int64)))]))
  refine own_dload X0 hx hby own_d1_25 rfl ?_
  show own_G p e below s _ _ _ (s₁.setTop (mkF m 27 #[.val (Value.ref a), .val (Value.double (FP.l2d (0 : Int64))), .second, .val (Value.ref a), .val (Value.int (3 : Int32)), .val (Value.int (0 : Int32)), .val (Value.double (FP.l2d (g 0))), .second] [(Value.double (FP.l2d (g 0))), (Value.double (FP.l2d (0 : Int64)))]))
  refine own_dadd X0 hx hby (own_R.z.b53 (by decide)) ((hR 0).b53 (by decide)) own_d1_27 ?_
  show own_G p e below s _ _ _ (s₁.setTop (mkF m 28 #[.val (Value.ref a), .val (Value.double (FP.l2d (0 : Int64))), .second, .val (Value.ref a), .val (Value.int (3 : Int32)), .val (Value.int (0 : Int32)), .val (Value.double (FP.l2d (g 0))), .second] [(Value.double (FP.l2d ((0 : Int64) + (g 0))))]))
  refine own_dstoreN X0 hx hby own_d1_28 (l' := #[.val (Value.ref a), .val (Value.double (FP.l2d ((0 : Int64) + (g 0)))), .second, .val (Value.ref a), .val (Value.int (3 : Int32)), .val (Value.int (0 : Int32)), .val (Value.double (FP.l2d (g 0))), .second]) rfl ?_
  show own_G p e below s _ _ _ (s₁.setTop (mkF m 29 #[.val (Value.ref a), .val (Value.double (FP.l2d ((0 : Int64) + (g 0)))), .second, .val (Value.ref a), .val (Value.int (3 : Int32)), .val (Value.int (0 : Int32)), .val (Value.double (FP.l2d (g 0))), .second] []))
  refine own_iinc X0 hx hby own_d1_29 rfl (l' := #[.val (Value.ref a), .val (Value.double (FP.l2d ((0 : Int64) + (g 0)))), .second, .val (Value.ref a), .val (Value.int (3 : Int32)), .val (Value.int (1 : Int32)), .val (Value.double (FP.l2d (g 0))), .second]) rfl ?_
  show own_G p e below s _ _ _ (s₁.setTop (mkF m 32 #[.val (Value.ref a), .val (Value.double (FP.l2d ((0 : Int64) + (g 0)))), .second, .val (Value.ref a), .val (Value.int (3 : Int32)), .val (Value.int (1 : Int32)), .val (Value.double (FP.l2d (g 0))), .second] []))
  refine own_goto X0 hx hby own_d1_32 (pc' := 11) (by decide) (by decide) ?_
  show own_G p e below s _ _ _ (s₁.setTop (mkF m 11 #[.val (Value.ref a), .val (Value.double (FP.l2d ((0 : Int64) + (g 0)))), .second, .val (Value.ref a), .val (Value.int (3 : Int32)), .val (Value.int (1 : Int32)), .val (Value.double (FP.l2d (g 0))), .second] []))
  refine own_iload X0 hx hby own_d1_11 rfl ?_
  show own_G p e below s _ _ _ (s₁.setTop (mkF m 13 #[.val (Value.ref a), .val (Value.double (FP.l2d ((0 : Int64) + (g 0)))), .second, .val (Value.ref a), .val (Value.int (3 : Int32)), .val (Value.int (1 : Int32)), .val (Value.double (FP.l2d (g 0))), .second] [(Value.int (1 : Int32))]))
  refine own_iload X0 hx hby own_d1_13 rfl ?_
  show own_G p e below s _ _ _ (s₁.setTop (mkF m 15 #[.val (Value.ref a), .val (Value.double (FP.l2d ((0 : Int64) + (g 0)))), .second, .val (Value.ref a), .val (Value.int (3 : Int32)), .val (Value.int (1 : Int32)), .val (Value.double (FP.l2d (g 0))), .second] [(Value.int (3 : Int32)), (Value.int (1 : Int32))]))
  refine own_icmp_ge X0 hx hby own_d1_15 (pc' := 35) (by decide) (by decide) (fun hb2 => by exfalso; revert hb2; decide) (fun hb2 => ?_)
  show own_G p e below s _ _ _ (s₁.setTop (mkF m 18 #[.val (Value.ref a), .val (Value.double (FP.l2d ((0 : Int64) + (g 0)))), .second, .val (Value.ref a), .val (Value.int (3 : Int32)), .val (Value.int (1 : Int32)), .val (Value.double (FP.l2d (g 0))), .second] []))
  refine own_aloadN X0 hx hby own_d1_18 rfl rfl ?_
  show own_G p e below s _ _ _ (s₁.setTop (mkF m 19 #[.val (Value.ref a), .val (Value.double (FP.l2d ((0 : Int64) + (g 0)))), .second, .val (Value.ref a), .val (Value.int (3 : Int32)), .val (Value.int (1 : Int32)), .val (Value.double (FP.l2d (g 0))), .second] [(Value.ref a)]))
  refine own_iload X0 hx hby own_d1_19 rfl ?_
  show own_G p e below s _ _ _ (s₁.setTop (mkF m 21 #[.val (Value.ref a), .val (Value.double (FP.l2d ((0 : Int64) + (g 0)))), .second, .val (Value.ref a), .val (Value.int (3 : Int32)), .val (Value.int (1 : Int32)), .val (Value.double (FP.l2d (g 0))), .second] [(Value.int (1 : Int32)), (Value.ref a)]))
  refine own_daload X0 hx hby hZ e0 A_a (j := (1 : Int32)) (i := 1) (by decide) (by decide) own_d1_21 ?_
  show own_G p e below s _ _ _ (s₁.setTop (mkF m 22 #[.val (Value.ref a), .val (Value.double (FP.l2d ((0 : Int64) + (g 0)))), .second, .val (Value.ref a), .val (Value.int (3 : Int32)), .val (Value.int (1 : Int32)), .val (Value.double (FP.l2d (g 0))), .second] [(Value.double (FP.l2d (g 1)))]))
  refine own_dstore X0 hx hby own_d1_22 (l' := #[.val (Value.ref a), .val (Value.double (FP.l2d ((0 : Int64) + (g 0)))), .second, .val (Value.ref a), .val (Value.int (3 : Int32)), .val (Value.int (1 : Int32)), .val (Value.double (FP.l2d (g 1))), .second]) rfl ?_
  show own_G p e below s _ _ _ (s₁.setTop (mkF m 24 #[.val (Value.ref a), .val (Value.double (FP.l2d ((0 : Int64) + (g 0)))), .second, .val (Value.ref a), .val (Value.int (3 : Int32)), .val (Value.int (1 : Int32)), .val (Value.double (FP.l2d (g 1))), .second] []))
  refine own_dloadN X0 hx hby own_d1_24 rfl ?_
  show own_G p e below s _ _ _ (s₁.setTop (mkF m 25 #[.val (Value.ref a), .val (Value.double (FP.l2d ((0 : Int64) + (g 0)))), .second, .val (Value.ref a), .val (Value.int (3 : Int32)), .val (Value.int (1 : Int32)), .val (Value.double (FP.l2d (g 1))), .second] [(Value.double (FP.l2d ((0 : Int64) + (g 0))))]))
  refine own_dload X0 hx hby own_d1_25 rfl ?_
  show own_G p e below s _ _ _ (s₁.setTop (mkF m 27 #[.val (Value.ref a), .val (Value.double (FP.l2d ((0 : Int64) + (g 0)))), .second, .val (Value.ref a), .val (Value.int (3 : Int32)), .val (Value.int (1 : Int32)), .val (Value.double (FP.l2d (g 1))), .second] [(Value.double (FP.l2d (g 1))), (Value.double (FP.l2d ((0 : Int64) + (g 0))))]))
  refine own_dadd X0 hx hby ((own_R.add own_R.z (hR 0) (by decide)).b53 (by decide)) ((hR 1).b53 (by decide)) own_d1_27 ?_
  show own_G p e below s _ _ _ (s₁.setTop (mkF m 28 #[.val (Value.ref a), .val (Value.double (FP.l2d ((0 : Int64) + (g 0)))), .second, .val (Value.ref a), .val (Value.int (3 : Int32)), .val (Value.int (1 : Int32)), .val (Value.double (FP.l2d (g 1))), .second] [(Value.double (FP.l2d (((0 : Int64) + (g 0)) + (g 1))))]))
  refine own_dstoreN X0 hx hby own_d1_28 (l' := #[.val (Value.ref a), .val (Value.double (FP.l2d (((0 : Int64) + (g 0)) + (g 1)))), .second, .val (Value.ref a), .val (Value.int (3 : Int32)), .val (Value.int (1 : Int32)), .val (Value.double (FP.l2d (g 1))), .second]) rfl ?_
  show own_G p e below s _ _ _ (s₁.setTop (mkF m 29 #[.val (Value.ref a), .val (Value.double (FP.l2d (((0 : Int64) + (g 0)) + (g 1)))), .second, .val (Value.ref a), .val (Value.int (3 : Int32)), .val (Value.int (1 : Int32)), .val (Value.double (FP.l2d (g 1))), .second] []))
  refine own_iinc X0 hx hby own_d1_29 rfl (l' := #[.val (Value.ref a), .val (Value.double (FP.l2d (((0 : Int64) + (g 0)) + (g 1)))), .second, .val (Value.ref a), .val (Value.int (3 : Int32)), .val (Value.int (2 : Int32)), .val (Value.double (FP.l2d (g 1))), .second]) rfl ?_
  show own_G p e below s _ _ _ (s₁.setTop (mkF m 32 #[.val (Value.ref a), .val (Value.double (FP.l2d (((0 : Int64) + (g 0)) + (g 1)))), .second, .val (Value.ref a), .val (Value.int (3 : Int32)), .val (Value.int (2 : Int32)), .val (Value.double (FP.l2d (g 1))), .second] []))
  refine own_goto X0 hx hby own_d1_32 (pc' := 11) (by decide) (by decide) ?_
  show own_G p e below s _ _ _ (s₁.setTop (mkF m 11 #[.val (Value.ref a), .val (Value.double (FP.l2d (((0 : Int64) + (g 0)) + (g 1)))), .second, .val (Value.ref a), .val (Value.int (3 : Int32)), .val (Value.int (2 : Int32)), .val (Value.double (FP.l2d (g 1))), .second] []))
  refine own_iload X0 hx hby own_d1_11 rfl ?_
  show own_G p e below s _ _ _ (s₁.setTop (mkF m 13 #[.val (Value.ref a), .val (Value.double (FP.l2d (((0 : Int64) + (g 0)) + (g 1)))), .second, .val (Value.ref a), .val (Value.int (3 : Int32)), .val (Value.int (2 : Int32)), .val (Value.double (FP.l2d (g 1))), .second] [(Value.int (2 : Int32))]))
  refine own_iload X0 hx hby own_d1_13 rfl ?_
  show own_G p e below s _ _ _ (s₁.setTop (mkF m 15 #[.val (Value.ref a), .val (Value.double (FP.l2d (((0 : Int64) + (g 0)) + (g 1)))), .second, .val (Value.ref a), .val (Value.int (3 : Int32)), .val (Value.int (2 : Int32)), .val (Value.double (FP.l2d (g 1))), .second] [(Value.int (3 : Int32)), (Value.int (2 : Int32))]))
  refine own_icmp_ge X0 hx hby own_d1_15 (pc' := 35) (by decide) (by decide) (fun hb3 => by exfalso; revert hb3; decide) (fun hb3 => ?_)
  show own_G p e below s _ _ _ (s₁.setTop (mkF m 18 #[.val (Value.ref a), .val (Value.double (FP.l2d (((0 : Int64) + (g 0)) + (g 1)))), .second, .val (Value.ref a), .val (Value.int (3 : Int32)), .val (Value.int (2 : Int32)), .val (Value.double (FP.l2d (g 1))), .second] []))
  refine own_aloadN X0 hx hby own_d1_18 rfl rfl ?_
  show own_G p e below s _ _ _ (s₁.setTop (mkF m 19 #[.val (Value.ref a), .val (Value.double (FP.l2d (((0 : Int64) + (g 0)) + (g 1)))), .second, .val (Value.ref a), .val (Value.int (3 : Int32)), .val (Value.int (2 : Int32)), .val (Value.double (FP.l2d (g 1))), .second] [(Value.ref a)]))
  refine own_iload X0 hx hby own_d1_19 rfl ?_
  show own_G p e below s _ _ _ (s₁.setTop (mkF m 21 #[.val (Value.ref a), .val (Value.double (FP.l2d (((0 : Int64) + (g 0)) + (g 1)))), .second, .val (Value.ref a), .val (Value.int (3 : Int32)), .val (Value.int (2 : Int32)), .val (Value.double (FP.l2d (g 1))), .second] [(Value.int (2 : Int32)), (Value.ref a)]))
  refine own_daload X0 hx hby hZ e0 A_a (j := (2 : Int32)) (i := 2) (by decide) (by decide) own_d1_21 ?_
  show own_G p e below s _ _ _ (s₁.setTop (mkF m 22 #[.val (Value.ref a), .val (Value.double (FP.l2d (((0 : Int64) + (g 0)) + (g 1)))), .second, .val (Value.ref a), .val (Value.int (3 : Int32)), .val (Value.int (2 : Int32)), .val (Value.double (FP.l2d (g 1))), .second] [(Value.double (FP.l2d (g 2)))]))
  refine own_dstore X0 hx hby own_d1_22 (l' := #[.val (Value.ref a), .val (Value.double (FP.l2d (((0 : Int64) + (g 0)) + (g 1)))), .second, .val (Value.ref a), .val (Value.int (3 : Int32)), .val (Value.int (2 : Int32)), .val (Value.double (FP.l2d (g 2))), .second]) rfl ?_
  show own_G p e below s _ _ _ (s₁.setTop (mkF m 24 #[.val (Value.ref a), .val (Value.double (FP.l2d (((0 : Int64) + (g 0)) + (g 1)))), .second, .val (Value.ref a), .val (Value.int (3 : Int32)), .val (Value.int (2 : Int32)), .val (Value.double (FP.l2d (g 2))), .second] []))
  refine own_dloadN X0 hx hby own_d1_24 rfl ?_
  show own_G p e below s _ _ _ (s₁.setTop (mkF m 25 #[.val (Value.ref a), .val (Value.double (FP.l2d (((0 : Int64) + (g 0)) + (g 1)))), .second, .val (Value.ref a), .val (Value.int (3 : Int32)), .val (Value.int (2 : Int32)), .val (Value.double (FP.l2d (g 2))), .second] [(Value.double (FP.l2d (((0 : Int64) + (g 0)) + (g 1))))]))
  refine own_dload X0 hx hby own_d1_25 rfl ?_
  show own_G p e below s _ _ _ (s₁.setTop (mkF m 27 #[.val (Value.ref a), .val (Value.double (FP.l2d (((0 : Int64) + (g 0)) + (g 1)))), .second, .val (Value.ref a), .val (Value.int (3 : Int32)), .val (Value.int (2 : Int32)), .val (Value.double (FP.l2d (g 2))), .second] [(Value.double (FP.l2d (g 2))), (Value.double (FP.l2d (((0 : Int64) + (g 0)) + (g 1))))]))
  refine own_dadd X0 hx hby ((own_R.add (own_R.add own_R.z (hR 0) (by decide)) (hR 1) (by decide)).b53 (by decide)) ((hR 2).b53 (by decide)) own_d1_27 ?_
  show own_G p e below s _ _ _ (s₁.setTop (mkF m 28 #[.val (Value.ref a), .val (Value.double (FP.l2d (((0 : Int64) + (g 0)) + (g 1)))), .second, .val (Value.ref a), .val (Value.int (3 : Int32)), .val (Value.int (2 : Int32)), .val (Value.double (FP.l2d (g 2))), .second] [(Value.double (FP.l2d ((((0 : Int64) + (g 0)) + (g 1)) + (g 2))))]))
  refine own_dstoreN X0 hx hby own_d1_28 (l' := #[.val (Value.ref a), .val (Value.double (FP.l2d ((((0 : Int64) + (g 0)) + (g 1)) + (g 2)))), .second, .val (Value.ref a), .val (Value.int (3 : Int32)), .val (Value.int (2 : Int32)), .val (Value.double (FP.l2d (g 2))), .second]) rfl ?_
  show own_G p e below s _ _ _ (s₁.setTop (mkF m 29 #[.val (Value.ref a), .val (Value.double (FP.l2d ((((0 : Int64) + (g 0)) + (g 1)) + (g 2)))), .second, .val (Value.ref a), .val (Value.int (3 : Int32)), .val (Value.int (2 : Int32)), .val (Value.double (FP.l2d (g 2))), .second] []))
  refine own_iinc X0 hx hby own_d1_29 rfl (l' := #[.val (Value.ref a), .val (Value.double (FP.l2d ((((0 : Int64) + (g 0)) + (g 1)) + (g 2)))), .second, .val (Value.ref a), .val (Value.int (3 : Int32)), .val (Value.int (3 : Int32)), .val (Value.double (FP.l2d (g 2))), .second]) rfl ?_
  show own_G p e below s _ _ _ (s₁.setTop (mkF m 32 #[.val (Value.ref a), .val (Value.double (FP.l2d ((((0 : Int64) + (g 0)) + (g 1)) + (g 2)))), .second, .val (Value.ref a), .val (Value.int (3 : Int32)), .val (Value.int (3 : Int32)), .val (Value.double (FP.l2d (g 2))), .second] []))
  refine own_goto X0 hx hby own_d1_32 (pc' := 11) (by decide) (by decide) ?_
  show own_G p e below s _ _ _ (s₁.setTop (mkF m 11 #[.val (Value.ref a), .val (Value.double (FP.l2d ((((0 : Int64) + (g 0)) + (g 1)) + (g 2)))), .second, .val (Value.ref a), .val (Value.int (3 : Int32)), .val (Value.int (3 : Int32)), .val (Value.double (FP.l2d (g 2))), .second] []))
  refine own_iload X0 hx hby own_d1_11 rfl ?_
  show own_G p e below s _ _ _ (s₁.setTop (mkF m 13 #[.val (Value.ref a), .val (Value.double (FP.l2d ((((0 : Int64) + (g 0)) + (g 1)) + (g 2)))), .second, .val (Value.ref a), .val (Value.int (3 : Int32)), .val (Value.int (3 : Int32)), .val (Value.double (FP.l2d (g 2))), .second] [(Value.int (3 : Int32))]))
  refine own_iload X0 hx hby own_d1_13 rfl ?_
  show own_G p e below s _ _ _ (s₁.setTop (mkF m 15 #[.val (Value.ref a), .val (Value.double (FP.l2d ((((0 : Int64) + (g 0)) + (g 1)) + (g 2)))), .second, .val (Value.ref a), .val (Value.int (3 : Int32)), .val (Value.int (3 : Int32)), .val (Value.double (FP.l2d (g 2))), .second] [(Value.int (3 : Int32)), (Value.int (3 : Int32))]))
  refine own_icmp_ge X0 hx hby own_d1_15 (pc' := 35) (by decide) (by decide) (fun hb4 => ?_) (fun hb4 => by exfalso; revert hb4; decide)
  show own_G p e below s _ _ _ (s₁.setTop (mkF m 35 #[.val (Value.ref a), .val (Value.double (FP.l2d ((((0 : Int64) + (g 0)) + (g 1)) + (g 2)))), .second, .val (Value.ref a), .val (Value.int (3 : Int32)), .val (Value.int (3 : Int32)), .val (Value.double (FP.l2d (g 2))), .second] []))
  refine own_dloadN X0 hx hby own_d1_35 rfl ?_
  show own_G p e below s _ _ _ (s₁.setTop (mkF m 36 #[.val (Value.ref a), .val (Value.double (FP.l2d ((((0 : Int64) + (g 0)) + (g 1)) + (g 2)))), .second, .val (Value.ref a), .val (Value.int (3 : Int32)), .val (Value.int (3 : Int32)), .val (Value.double (FP.l2d (g 2))), .second] [(Value.double (FP.l2d ((((0 : Int64) + (g 0)) + (g 1)) + (g 2))))]))
  refine own_retD X0 hx hby hlk Bd.returns own_d1_36 (by decide) (by decide) ?_
  refine ⟨?_, e0, N0⟩
  show some (Value.double (FP.l2d ((((0 : Int64) + (g 0)) + (g 1)) + (g 2)))) = _
  rfl
def own_rmS4_Q (Z : State) (a : Addr) (g : Nat → Int64) (h0 : Heap) (n0 : Nat) : Option Value → Heap → List Loc → Prop := fun v h L => v = some (Value.double (FP.l2d (((((0 : Int64) + (g 0)) + (g 1)) + (g 2)) + (g 3)))) ∧ h = h0 ∧ Fr n0 L
theorem own_rmS4_ef (m : MethodId) (a : Addr)  : entryFrame m #[(Value.ref a)] 8 = mkF m 0 #[.val (Value.ref a), .unset, .unset, .unset, .unset, .unset, .unset, .unset] [] := by first | (simp [entryFrame, mkF, argsToLocals, Value.category]; done) | rfl
set_option maxRecDepth 65536 in
set_option maxHeartbeats 40000000 in
theorem own_rmS4 (l : Launch) (Z : State) (a0 : Array Value) (hw : ∀ d ∈ tables_1, d.before a0 Z = true) (ws : List Jvm.Cond) (a : Addr) (g : Nat → Int64) (h0 : Heap) (n0 : Nat) (O0 : Old Z n0 h0) (A_a : own_Ar Z h0 a .double 4 (fun j => .double (FP.l2d (g j)))) (hR : ∀ j, own_R 2147483648 (g j)) :
    MetFree l (⟨"com/example/wattfloor/wattfloor/market/Vectors", "sum", "([D)D"⟩ : MethodName) (head1 (Jvm.Cond.code (⟨"com/example/wattfloor/wattfloor/market/Vectors", "sum", "([D)D"⟩ : MethodName) prog_127_method_2_code 8 (some .double) :: ws) ({ frames := 0, cells := 0, slots := 0, locals := 0 } : Room)) (fun aa_ U => aa_ = #[(Value.ref a)] ∧ Z.Warmed39 U.vm ∧ U.heap = h0) (fun _ _ _ _ _ => True) (fun _ UU_ oo_ UX_ => ∃ vv_ LL_, oo_ = .returned vv_ ∧ (own_rmS4_Q Z a g h0 n0) vv_ UX_.heap LL_ ∧ FrameEnd UU_ oo_ UX_ LL_ ({ frames := 0, cells := 0, slots := 0, locals := 0 } : Room).cells ({ frames := 0, cells := 0, slots := 0, locals := 0 } : Room).slots) := by
  refine MetFree.of_bodySF (plainFor_of_name own_pn0) hisR ?_
  intro p e s m args below meth c s₁ Bd hml0 hP hK
  obtain ⟨rfl, hZ, hh⟩ := hP
  have hx := Bd.exec
  have hby := Bd.bytes
  have hml : c.maxLocals = 8 := hml0
  have hown : s.vm.findClass "com/example/wattfloor/wattfloor/market/Vectors" = some m.cls := findClass_of_methodNamed Bd.named
  have hnm := (name_of_methodNamed Bd.named Bd.method).1
  have hlk : meth.locks = false := BodyLoose.notSynchronized Bd
  have X0 : Stand p l e ({ frames := 0, cells := 0, slots := 0, locals := 0 } : Room) s m #[(Value.ref a)] below meth c s₁ [] 0 0 := Stand.of_body Bd
  have e0 : s₁.heap = h0 := by rw [← hh, Bd.state]; rfl
  have N0 := Fr.nil n0
  show own_G p e below s (own_rmS4_Q Z a g h0 n0) ({ frames := 0, cells := 0, slots := 0, locals := 0 } : Room).cells ({ frames := 0, cells := 0, slots := 0, locals := 0 } : Room).slots (s₁.setTop (entryFrame m #[(Value.ref a)] 8))
  refine own_cast (own_rmS4_ef m a ) ?_
  show own_G p e below s _ _ _ (s₁.setTop (mkF m 0 #[.val (Value.ref a), .unset, .unset, .unset, .unset, .unset, .unset, .unset] []))
  refine own_dconst0 X0 hx hby own_d1_0 ?_
  show own_G p e below s _ _ _ (s₁.setTop (mkF m 1 #[.val (Value.ref a), .unset, .unset, .unset, .unset, .unset, .unset, .unset] [(Value.double (FP.l2d (0 : Int64)))]))
  refine own_dstoreN X0 hx hby own_d1_1 (l' := #[.val (Value.ref a), .val (Value.double (FP.l2d (0 : Int64))), .second, .unset, .unset, .unset, .unset, .unset]) rfl ?_
  show own_G p e below s _ _ _ (s₁.setTop (mkF m 2 #[.val (Value.ref a), .val (Value.double (FP.l2d (0 : Int64))), .second, .unset, .unset, .unset, .unset, .unset] []))
  refine own_aloadN X0 hx hby own_d1_2 rfl rfl ?_
  show own_G p e below s _ _ _ (s₁.setTop (mkF m 3 #[.val (Value.ref a), .val (Value.double (FP.l2d (0 : Int64))), .second, .unset, .unset, .unset, .unset, .unset] [(Value.ref a)]))
  refine own_astoreN X0 hx hby own_d1_3 rfl (l' := #[.val (Value.ref a), .val (Value.double (FP.l2d (0 : Int64))), .second, .val (Value.ref a), .unset, .unset, .unset, .unset]) rfl ?_
  show own_G p e below s _ _ _ (s₁.setTop (mkF m 4 #[.val (Value.ref a), .val (Value.double (FP.l2d (0 : Int64))), .second, .val (Value.ref a), .unset, .unset, .unset, .unset] []))
  refine own_aloadN X0 hx hby own_d1_4 rfl rfl ?_
  show own_G p e below s _ _ _ (s₁.setTop (mkF m 5 #[.val (Value.ref a), .val (Value.double (FP.l2d (0 : Int64))), .second, .val (Value.ref a), .unset, .unset, .unset, .unset] [(Value.ref a)]))
  refine own_alen X0 hx hby hZ e0 A_a own_d1_5 ?_
  show own_G p e below s _ _ _ (s₁.setTop (mkF m 6 #[.val (Value.ref a), .val (Value.double (FP.l2d (0 : Int64))), .second, .val (Value.ref a), .unset, .unset, .unset, .unset] [(Value.int (4 : Int32))]))
  refine own_istore X0 hx hby own_d1_6 (l' := #[.val (Value.ref a), .val (Value.double (FP.l2d (0 : Int64))), .second, .val (Value.ref a), .val (Value.int (4 : Int32)), .unset, .unset, .unset]) rfl ?_
  show own_G p e below s _ _ _ (s₁.setTop (mkF m 8 #[.val (Value.ref a), .val (Value.double (FP.l2d (0 : Int64))), .second, .val (Value.ref a), .val (Value.int (4 : Int32)), .unset, .unset, .unset] []))
  refine own_iconst X0 hx hby own_d1_8 ?_
  show own_G p e below s _ _ _ (s₁.setTop (mkF m 9 #[.val (Value.ref a), .val (Value.double (FP.l2d (0 : Int64))), .second, .val (Value.ref a), .val (Value.int (4 : Int32)), .unset, .unset, .unset] [(Value.int (0 : Int32))]))
  refine own_istore X0 hx hby own_d1_9 (l' := #[.val (Value.ref a), .val (Value.double (FP.l2d (0 : Int64))), .second, .val (Value.ref a), .val (Value.int (4 : Int32)), .val (Value.int (0 : Int32)), .unset, .unset]) rfl ?_
  show own_G p e below s _ _ _ (s₁.setTop (mkF m 11 #[.val (Value.ref a), .val (Value.double (FP.l2d (0 : Int64))), .second, .val (Value.ref a), .val (Value.int (4 : Int32)), .val (Value.int (0 : Int32)), .unset, .unset] []))
  refine own_iload X0 hx hby own_d1_11 rfl ?_
  show own_G p e below s _ _ _ (s₁.setTop (mkF m 13 #[.val (Value.ref a), .val (Value.double (FP.l2d (0 : Int64))), .second, .val (Value.ref a), .val (Value.int (4 : Int32)), .val (Value.int (0 : Int32)), .unset, .unset] [(Value.int (0 : Int32))]))
  refine own_iload X0 hx hby own_d1_13 rfl ?_
  show own_G p e below s _ _ _ (s₁.setTop (mkF m 15 #[.val (Value.ref a), .val (Value.double (FP.l2d (0 : Int64))), .second, .val (Value.ref a), .val (Value.int (4 : Int32)), .val (Value.int (0 : Int32)), .unset, .unset] [(Value.int (4 : Int32)), (Value.int (0 : Int32))]))
  refine own_icmp_ge X0 hx hby own_d1_15 (pc' := 35) (by decide) (by decide) (fun hb1 => by exfalso; revert hb1; decide) (fun hb1 => ?_)
  show own_G p e below s _ _ _ (s₁.setTop (mkF m 18 #[.val (Value.ref a), .val (Value.double (FP.l2d (0 : Int64))), .second, .val (Value.ref a), .val (Value.int (4 : Int32)), .val (Value.int (0 : Int32)), .unset, .unset] []))
  refine own_aloadN X0 hx hby own_d1_18 rfl rfl ?_
  show own_G p e below s _ _ _ (s₁.setTop (mkF m 19 #[.val (Value.ref a), .val (Value.double (FP.l2d (0 : Int64))), .second, .val (Value.ref a), .val (Value.int (4 : Int32)), .val (Value.int (0 : Int32)), .unset, .unset] [(Value.ref a)]))
  refine own_iload X0 hx hby own_d1_19 rfl ?_
  show own_G p e below s _ _ _ (s₁.setTop (mkF m 21 #[.val (Value.ref a), .val (Value.double (FP.l2d (0 : Int64))), .second, .val (Value.ref a), .val (Value.int (4 : Int32)), .val (Value.int (0 : Int32)), .unset, .unset] [(Value.int (0 : Int32)), (Value.ref a)]))
  refine own_daload X0 hx hby hZ e0 A_a (j := (0 : Int32)) (i := 0) (by decide) (by decide) own_d1_21 ?_
  show own_G p e below s _ _ _ (s₁.setTop (mkF m 22 #[.val (Value.ref a), .val (Value.double (FP.l2d (0 : Int64))), .second, .val (Value.ref a), .val (Value.int (4 : Int32)), .val (Value.int (0 : Int32)), .unset, .unset] [(Value.double (FP.l2d (g 0)))]))
  refine own_dstore X0 hx hby own_d1_22 (l' := #[.val (Value.ref a), .val (Value.double (FP.l2d (0 : Int64))), .second, .val (Value.ref a), .val (Value.int (4 : Int32)), .val (Value.int (0 : Int32)), .val (Value.double (FP.l2d (g 0))), .second]) rfl ?_
  show own_G p e below s _ _ _ (s₁.setTop (mkF m 24 #[.val (Value.ref a), .val (Value.double (FP.l2d (0 : Int64))), .second, .val (Value.ref a), .val (Value.int (4 : Int32)), .val (Value.int (0 : Int32)), .val (Value.double (FP.l2d (g 0))), .second] []))
  refine own_dloadN X0 hx hby own_d1_24 rfl ?_
  show own_G p e below s _ _ _ (s₁.setTop (mkF m 25 #[.val (Value.ref a), .val (Value.double (FP.l2d (0 : Int64))), .second, .val (Value.ref a), .val (Value.int (4 : Int32)), .val (Value.int (0 : Int32)), .val (Value.double (FP.l2d (g 0))), .second] [(Value.double (FP.l2d (0 : Int64)))]))
  refine own_dload X0 hx hby own_d1_25 rfl ?_
  show own_G p e below s _ _ _ (s₁.setTop (mkF m 27 #[.val (Value.ref a), .val (Value.double (FP.l2d (0 : Int64))), .second, .val (Value.ref a), .val (Value.int (4 : Int32)), .val (Value.int (0 : Int32)), .val (Value.double (FP.l2d (g 0))), .second] [(Value.double (FP.l2d (g 0))), (Value.double (FP.l2d (0 : Int64)))]))
  refine own_dadd X0 hx hby (own_R.z.b53 (by decide)) ((hR 0).b53 (by decide)) own_d1_27 ?_
  show own_G p e below s _ _ _ (s₁.setTop (mkF m 28 #[.val (Value.ref a), .val (Value.double (FP.l2d (0 : Int64))), .second, .val (Value.ref a), .val (Value.int (4 : Int32)), .val (Value.int (0 : Int32)), .val (Value.double (FP.l2d (g 0))), .second] [(Value.double (FP.l2d ((0 : Int64) + (g 0))))]))
  refine own_dstoreN X0 hx hby own_d1_28 (l' := #[.val (Value.ref a), .val (Value.double (FP.l2d ((0 : Int64) + (g 0)))), .second, .val (Value.ref a), .val (Value.int (4 : Int32)), .val (Value.int (0 : Int32)), .val (Value.double (FP.l2d (g 0))), .second]) rfl ?_
  show own_G p e below s _ _ _ (s₁.setTop (mkF m 29 #[.val (Value.ref a), .val (Value.double (FP.l2d ((0 : Int64) + (g 0)))), .second, .val (Value.ref a), .val (Value.int (4 : Int32)), .val (Value.int (0 : Int32)), .val (Value.double (FP.l2d (g 0))), .second] []))
  refine own_iinc X0 hx hby own_d1_29 rfl (l' := #[.val (Value.ref a), .val (Value.double (FP.l2d ((0 : Int64) + (g 0)))), .second, .val (Value.ref a), .val (Value.int (4 : Int32)), .val (Value.int (1 : Int32)), .val (Value.double (FP.l2d (g 0))), .second]) rfl ?_
  show own_G p e below s _ _ _ (s₁.setTop (mkF m 32 #[.val (Value.ref a), .val (Value.double (FP.l2d ((0 : Int64) + (g 0)))), .second, .val (Value.ref a), .val (Value.int (4 : Int32)), .val (Value.int (1 : Int32)), .val (Value.double (FP.l2d (g 0))), .second] []))
  refine own_goto X0 hx hby own_d1_32 (pc' := 11) (by decide) (by decide) ?_
  show own_G p e below s _ _ _ (s₁.setTop (mkF m 11 #[.val (Value.ref a), .val (Value.double (FP.l2d ((0 : Int64) + (g 0)))), .second, .val (Value.ref a), .val (Value.int (4 : Int32)), .val (Value.int (1 : Int32)), .val (Value.double (FP.l2d (g 0))), .second] []))
  refine own_iload X0 hx hby own_d1_11 rfl ?_
  show own_G p e below s _ _ _ (s₁.setTop (mkF m 13 #[.val (Value.ref a), .val (Value.double (FP.l2d ((0 : Int64) + (g 0)))), .second, .val (Value.ref a), .val (Value.int (4 : Int32)), .val (Value.int (1 : Int32)), .val (Value.double (FP.l2d (g 0))), .second] [(Value.int (1 : Int32))]))
  refine own_iload X0 hx hby own_d1_13 rfl ?_
  show own_G p e below s _ _ _ (s₁.setTop (mkF m 15 #[.val (Value.ref a), .val (Value.double (FP.l2d ((0 : Int64) + (g 0)))), .second, .val (Value.ref a), .val (Value.int (4 : Int32)), .val (Value.int (1 : Int32)), .val (Value.double (FP.l2d (g 0))), .second] [(Value.int (4 : Int32)), (Value.int (1 : Int32))]))
  refine own_icmp_ge X0 hx hby own_d1_15 (pc' := 35) (by decide) (by decide) (fun hb2 => by exfalso; revert hb2; decide) (fun hb2 => ?_)
  show own_G p e below s _ _ _ (s₁.setTop (mkF m 18 #[.val (Value.ref a), .val (Value.double (FP.l2d ((0 : Int64) + (g 0)))), .second, .val (Value.ref a), .val (Value.int (4 : Int32)), .val (Value.int (1 : Int32)), .val (Value.double (FP.l2d (g 0))), .second] []))
  refine own_aloadN X0 hx hby own_d1_18 rfl rfl ?_
  show own_G p e below s _ _ _ (s₁.setTop (mkF m 19 #[.val (Value.ref a), .val (Value.double (FP.l2d ((0 : Int64) + (g 0)))), .second, .val (Value.ref a), .val (Value.int (4 : Int32)), .val (Value.int (1 : Int32)), .val (Value.double (FP.l2d (g 0))), .second] [(Value.ref a)]))
  refine own_iload X0 hx hby own_d1_19 rfl ?_
  show own_G p e below s _ _ _ (s₁.setTop (mkF m 21 #[.val (Value.ref a), .val (Value.double (FP.l2d ((0 : Int64) + (g 0)))), .second, .val (Value.ref a), .val (Value.int (4 : Int32)), .val (Value.int (1 : Int32)), .val (Value.double (FP.l2d (g 0))), .second] [(Value.int (1 : Int32)), (Value.ref a)]))
  refine own_daload X0 hx hby hZ e0 A_a (j := (1 : Int32)) (i := 1) (by decide) (by decide) own_d1_21 ?_
  show own_G p e below s _ _ _ (s₁.setTop (mkF m 22 #[.val (Value.ref a), .val (Value.double (FP.l2d ((0 : Int64) + (g 0)))), .second, .val (Value.ref a), .val (Value.int (4 : Int32)), .val (Value.int (1 : Int32)), .val (Value.double (FP.l2d (g 0))), .second] [(Value.double (FP.l2d (g 1)))]))
  refine own_dstore X0 hx hby own_d1_22 (l' := #[.val (Value.ref a), .val (Value.double (FP.l2d ((0 : Int64) + (g 0)))), .second, .val (Value.ref a), .val (Value.int (4 : Int32)), .val (Value.int (1 : Int32)), .val (Value.double (FP.l2d (g 1))), .second]) rfl ?_
  show own_G p e below s _ _ _ (s₁.setTop (mkF m 24 #[.val (Value.ref a), .val (Value.double (FP.l2d ((0 : Int64) + (g 0)))), .second, .val (Value.ref a), .val (Value.int (4 : Int32)), .val (Value.int (1 : Int32)), .val (Value.double (FP.l2d (g 1))), .second] []))
  refine own_dloadN X0 hx hby own_d1_24 rfl ?_
  show own_G p e below s _ _ _ (s₁.setTop (mkF m 25 #[.val (Value.ref a), .val (Value.double (FP.l2d ((0 : Int64) + (g 0)))), .second, .val (Value.ref a), .val (Value.int (4 : Int32)), .val (Value.int (1 : Int32)), .val (Value.double (FP.l2d (g 1))), .second] [(Value.double (FP.l2d ((0 : Int64) + (g 0))))]))
  refine own_dload X0 hx hby own_d1_25 rfl ?_
  show own_G p e below s _ _ _ (s₁.setTop (mkF m 27 #[.val (Value.ref a), .val (Value.double (FP.l2d ((0 : Int64) + (g 0)))), .second, .val (Value.ref a), .val (Value.int (4 : Int32)), .val (Value.int (1 : Int32)), .val (Value.double (FP.l2d (g 1))), .second] [(Value.double (FP.l2d (g 1))), (Value.double (FP.l2d ((0 : Int64) + (g 0))))]))
  refine own_dadd X0 hx hby ((own_R.add own_R.z (hR 0) (by decide)).b53 (by decide)) ((hR 1).b53 (by decide)) own_d1_27 ?_
  show own_G p e below s _ _ _ (s₁.setTop (mkF m 28 #[.val (Value.ref a), .val (Value.double (FP.l2d ((0 : Int64) + (g 0)))), .second, .val (Value.ref a), .val (Value.int (4 : Int32)), .val (Value.int (1 : Int32)), .val (Value.double (FP.l2d (g 1))), .second] [(Value.double (FP.l2d (((0 : Int64) + (g 0)) + (g 1))))]))
  refine own_dstoreN X0 hx hby own_d1_28 (l' := #[.val (Value.ref a), .val (Value.double (FP.l2d (((0 : Int64) + (g 0)) + (g 1)))), .second, .val (Value.ref a), .val (Value.int (4 : Int32)), .val (Value.int (1 : Int32)), .val (Value.double (FP.l2d (g 1))), .second]) rfl ?_
  show own_G p e below s _ _ _ (s₁.setTop (mkF m 29 #[.val (Value.ref a), .val (Value.double (FP.l2d (((0 : Int64) + (g 0)) + (g 1)))), .second, .val (Value.ref a), .val (Value.int (4 : Int32)), .val (Value.int (1 : Int32)), .val (Value.double (FP.l2d (g 1))), .second] []))
  refine own_iinc X0 hx hby own_d1_29 rfl (l' := #[.val (Value.ref a), .val (Value.double (FP.l2d (((0 : Int64) + (g 0)) + (g 1)))), .second, .val (Value.ref a), .val (Value.int (4 : Int32)), .val (Value.int (2 : Int32)), .val (Value.double (FP.l2d (g 1))), .second]) rfl ?_
  show own_G p e below s _ _ _ (s₁.setTop (mkF m 32 #[.val (Value.ref a), .val (Value.double (FP.l2d (((0 : Int64) + (g 0)) + (g 1)))), .second, .val (Value.ref a), .val (Value.int (4 : Int32)), .val (Value.int (2 : Int32)), .val (Value.double (FP.l2d (g 1))), .second] []))
  refine own_goto X0 hx hby own_d1_32 (pc' := 11) (by decide) (by decide) ?_
  show own_G p e below s _ _ _ (s₁.setTop (mkF m 11 #[.val (Value.ref a), .val (Value.double (FP.l2d (((0 : Int64) + (g 0)) + (g 1)))), .second, .val (Value.ref a), .val (Value.int (4 : Int32)), .val (Value.int (2 : Int32)), .val (Value.double (FP.l2d (g 1))), .second] []))
  refine own_iload X0 hx hby own_d1_11 rfl ?_
  show own_G p e below s _ _ _ (s₁.setTop (mkF m 13 #[.val (Value.ref a), .val (Value.double (FP.l2d (((0 : Int64) + (g 0)) + (g 1)))), .second, .val (Value.ref a), .val (Value.int (4 : Int32)), .val (Value.int (2 : Int32)), .val (Value.double (FP.l2d (g 1))), .second] [(Value.int (2 : Int32))]))
  refine own_iload X0 hx hby own_d1_13 rfl ?_
  show own_G p e below s _ _ _ (s₁.setTop (mkF m 15 #[.val (Value.ref a), .val (Value.double (FP.l2d (((0 : Int64) + (g 0)) + (g 1)))), .second, .val (Value.ref a), .val (Value.int (4 : Int32)), .val (Value.int (2 : Int32)), .val (Value.double (FP.l2d (g 1))), .second] [(Value.int (4 : Int32)), (Value.int (2 : Int32))]))
  refine own_icmp_ge X0 hx hby own_d1_15 (pc' := 35) (by decide) (by decide) (fun hb3 => by exfalso; revert hb3; decide) (fun hb3 => ?_)
  show own_G p e below s _ _ _ (s₁.setTop (mkF m 18 #[.val (Value.ref a), .val (Value.double (FP.l2d (((0 : Int64) + (g 0)) + (g 1)))), .second, .val (Value.ref a), .val (Value.int (4 : Int32)), .val (Value.int (2 : Int32)), .val (Value.double (FP.l2d (g 1))), .second] []))
  refine own_aloadN X0 hx hby own_d1_18 rfl rfl ?_
  show own_G p e below s _ _ _ (s₁.setTop (mkF m 19 #[.val (Value.ref a), .val (Value.double (FP.l2d (((0 : Int64) + (g 0)) + (g 1)))), .second, .val (Value.ref a), .val (Value.int (4 : Int32)), .val (Value.int (2 : Int32)), .val (Value.double (FP.l2d (g 1))), .second] [(Value.ref a)]))
  refine own_iload X0 hx hby own_d1_19 rfl ?_
  show own_G p e below s _ _ _ (s₁.setTop (mkF m 21 #[.val (Value.ref a), .val (Value.double (FP.l2d (((0 : Int64) + (g 0)) + (g 1)))), .second, .val (Value.ref a), .val (Value.int (4 : Int32)), .val (Value.int (2 : Int32)), .val (Value.double (FP.l2d (g 1))), .second] [(Value.int (2 : Int32)), (Value.ref a)]))
  refine own_daload X0 hx hby hZ e0 A_a (j := (2 : Int32)) (i := 2) (by decide) (by decide) own_d1_21 ?_
  show own_G p e below s _ _ _ (s₁.setTop (mkF m 22 #[.val (Value.ref a), .val (Value.double (FP.l2d (((0 : Int64) + (g 0)) + (g 1)))), .second, .val (Value.ref a), .val (Value.int (4 : Int32)), .val (Value.int (2 : Int32)), .val (Value.double (FP.l2d (g 1))), .second] [(Value.double (FP.l2d (g 2)))]))
  refine own_dstore X0 hx hby own_d1_22 (l' := #[.val (Value.ref a), .val (Value.double (FP.l2d (((0 : Int64) + (g 0)) + (g 1)))), .second, .val (Value.ref a), .val (Value.int (4 : Int32)), .val (Value.int (2 : Int32)), .val (Value.double (FP.l2d (g 2))), .second]) rfl ?_
  show own_G p e below s _ _ _ (s₁.setTop (mkF m 24 #[.val (Value.ref a), .val (Value.double (FP.l2d (((0 : Int64) + (g 0)) + (g 1)))), .second, .val (Value.ref a), .val (Value.int (4 : Int32)), .val (Value.int (2 : Int32)), .val (Value.double (FP.l2d (g 2))), .second] []))
  refine own_dloadN X0 hx hby own_d1_24 rfl ?_
  show own_G p e below s _ _ _ (s₁.setTop (mkF m 25 #[.val (Value.ref a), .val (Value.double (FP.l2d (((0 : Int64) + (g 0)) + (g 1)))), .second, .val (Value.ref a), .val (Value.int (4 : Int32)), .val (Value.int (2 : Int32)), .val (Value.double (FP.l2d (g 2))), .second] [(Value.double (FP.l2d (((0 : Int64) + (g 0)) + (g 1))))]))
  refine own_dload X0 hx hby own_d1_25 rfl ?_
  show own_G p e below s _ _ _ (s₁.setTop (mkF m 27 #[.val (Value.ref a), .val (Value.double (FP.l2d (((0 : Int64) + (g 0)) + (g 1)))), .second, .val (Value.ref a), .val (Value.int (4 : Int32)), .val (Value.int (2 : Int32)), .val (Value.double (FP.l2d (g 2))), .second] [(Value.double (FP.l2d (g 2))), (Value.double (FP.l2d (((0 : Int64) + (g 0)) + (g 1))))]))
  refine own_dadd X0 hx hby ((own_R.add (own_R.add own_R.z (hR 0) (by decide)) (hR 1) (by decide)).b53 (by decide)) ((hR 2).b53 (by decide)) own_d1_27 ?_
  show own_G p e below s _ _ _ (s₁.setTop (mkF m 28 #[.val (Value.ref a), .val (Value.double (FP.l2d (((0 : Int64) + (g 0)) + (g 1)))), .second, .val (Value.ref a), .val (Value.int (4 : Int32)), .val (Value.int (2 : Int32)), .val (Value.double (FP.l2d (g 2))), .second] [(Value.double (FP.l2d ((((0 : Int64) + (g 0)) + (g 1)) + (g 2))))]))
  refine own_dstoreN X0 hx hby own_d1_28 (l' := #[.val (Value.ref a), .val (Value.double (FP.l2d ((((0 : Int64) + (g 0)) + (g 1)) + (g 2)))), .second, .val (Value.ref a), .val (Value.int (4 : Int32)), .val (Value.int (2 : Int32)), .val (Value.double (FP.l2d (g 2))), .second]) rfl ?_
  show own_G p e below s _ _ _ (s₁.setTop (mkF m 29 #[.val (Value.ref a), .val (Value.double (FP.l2d ((((0 : Int64) + (g 0)) + (g 1)) + (g 2)))), .second, .val (Value.ref a), .val (Value.int (4 : Int32)), .val (Value.int (2 : Int32)), .val (Value.double (FP.l2d (g 2))), .second] []))
  refine own_iinc X0 hx hby own_d1_29 rfl (l' := #[.val (Value.ref a), .val (Value.double (FP.l2d ((((0 : Int64) + (g 0)) + (g 1)) + (g 2)))), .second, .val (Value.ref a), .val (Value.int (4 : Int32)), .val (Value.int (3 : Int32)), .val (Value.double (FP.l2d (g 2))), .second]) rfl ?_
  show own_G p e below s _ _ _ (s₁.setTop (mkF m 32 #[.val (Value.ref a), .val (Value.double (FP.l2d ((((0 : Int64) + (g 0)) + (g 1)) + (g 2)))), .second, .val (Value.ref a), .val (Value.int (4 : Int32)), .val (Value.int (3 : Int32)), .val (Value.double (FP.l2d (g 2))), .second] []))
  refine own_goto X0 hx hby own_d1_32 (pc' := 11) (by decide) (by decide) ?_
  show own_G p e below s _ _ _ (s₁.setTop (mkF m 11 #[.val (Value.ref a), .val (Value.double (FP.l2d ((((0 : Int64) + (g 0)) + (g 1)) + (g 2)))), .second, .val (Value.ref a), .val (Value.int (4 : Int32)), .val (Value.int (3 : Int32)), .val (Value.double (FP.l2d (g 2))), .second] []))
  refine own_iload X0 hx hby own_d1_11 rfl ?_
  show own_G p e below s _ _ _ (s₁.setTop (mkF m 13 #[.val (Value.ref a), .val (Value.double (FP.l2d ((((0 : Int64) + (g 0)) + (g 1)) + (g 2)))), .second, .val (Value.ref a), .val (Value.int (4 : Int32)), .val (Value.int (3 : Int32)), .val (Value.double (FP.l2d (g 2))), .second] [(Value.int (3 : Int32))]))
  refine own_iload X0 hx hby own_d1_13 rfl ?_
  show own_G p e below s _ _ _ (s₁.setTop (mkF m 15 #[.val (Value.ref a), .val (Value.double (FP.l2d ((((0 : Int64) + (g 0)) + (g 1)) + (g 2)))), .second, .val (Value.ref a), .val (Value.int (4 : Int32)), .val (Value.int (3 : Int32)), .val (Value.double (FP.l2d (g 2))), .second] [(Value.int (4 : Int32)), (Value.int (3 : Int32))]))
  refine own_icmp_ge X0 hx hby own_d1_15 (pc' := 35) (by decide) (by decide) (fun hb4 => by exfalso; revert hb4; decide) (fun hb4 => ?_)
  show own_G p e below s _ _ _ (s₁.setTop (mkF m 18 #[.val (Value.ref a), .val (Value.double (FP.l2d ((((0 : Int64) + (g 0)) + (g 1)) + (g 2)))), .second, .val (Value.ref a), .val (Value.int (4 : Int32)), .val (Value.int (3 : Int32)), .val (Value.double (FP.l2d (g 2))), .second] []))
  refine own_aloadN X0 hx hby own_d1_18 rfl rfl ?_
  show own_G p e below s _ _ _ (s₁.setTop (mkF m 19 #[.val (Value.ref a), .val (Value.double (FP.l2d ((((0 : Int64) + (g 0)) + (g 1)) + (g 2)))), .second, .val (Value.ref a), .val (Value.int (4 : Int32)), .val (Value.int (3 : Int32)), .val (Value.double (FP.l2d (g 2))), .second] [(Value.ref a)]))
  refine own_iload X0 hx hby own_d1_19 rfl ?_
  show own_G p e below s _ _ _ (s₁.setTop (mkF m 21 #[.val (Value.ref a), .val (Value.double (FP.l2d ((((0 : Int64) + (g 0)) + (g 1)) + (g 2)))), .second, .val (Value.ref a), .val (Value.int (4 : Int32)), .val (Value.int (3 : Int32)), .val (Value.double (FP.l2d (g 2))), .second] [(Value.int (3 : Int32)), (Value.ref a)]))
  refine own_daload X0 hx hby hZ e0 A_a (j := (3 : Int32)) (i := 3) (by decide) (by decide) own_d1_21 ?_
  show own_G p e below s _ _ _ (s₁.setTop (mkF m 22 #[.val (Value.ref a), .val (Value.double (FP.l2d ((((0 : Int64) + (g 0)) + (g 1)) + (g 2)))), .second, .val (Value.ref a), .val (Value.int (4 : Int32)), .val (Value.int (3 : Int32)), .val (Value.double (FP.l2d (g 2))), .second] [(Value.double (FP.l2d (g 3)))]))
  refine own_dstore X0 hx hby own_d1_22 (l' := #[.val (Value.ref a), .val (Value.double (FP.l2d ((((0 : Int64) + (g 0)) + (g 1)) + (g 2)))), .second, .val (Value.ref a), .val (Value.int (4 : Int32)), .val (Value.int (3 : Int32)), .val (Value.double (FP.l2d (g 3))), .second]) rfl ?_
  show own_G p e below s _ _ _ (s₁.setTop (mkF m 24 #[.val (Value.ref a), .val (Value.double (FP.l2d ((((0 : Int64) + (g 0)) + (g 1)) + (g 2)))), .second, .val (Value.ref a), .val (Value.int (4 : Int32)), .val (Value.int (3 : Int32)), .val (Value.double (FP.l2d (g 3))), .second] []))
  refine own_dloadN X0 hx hby own_d1_24 rfl ?_
  show own_G p e below s _ _ _ (s₁.setTop (mkF m 25 #[.val (Value.ref a), .val (Value.double (FP.l2d ((((0 : Int64) + (g 0)) + (g 1)) + (g 2)))), .second, .val (Value.ref a), .val (Value.int (4 : Int32)), .val (Value.int (3 : Int32)), .val (Value.double (FP.l2d (g 3))), .second] [(Value.double (FP.l2d ((((0 : Int64) + (g 0)) + (g 1)) + (g 2))))]))
  refine own_dload X0 hx hby own_d1_25 rfl ?_
  show own_G p e below s _ _ _ (s₁.setTop (mkF m 27 #[.val (Value.ref a), .val (Value.double (FP.l2d ((((0 : Int64) + (g 0)) + (g 1)) + (g 2)))), .second, .val (Value.ref a), .val (Value.int (4 : Int32)), .val (Value.int (3 : Int32)), .val (Value.double (FP.l2d (g 3))), .second] [(Value.double (FP.l2d (g 3))), (Value.double (FP.l2d ((((0 : Int64) + (g 0)) + (g 1)) + (g 2))))]))
  refine own_dadd X0 hx hby ((own_R.add (own_R.add (own_R.add own_R.z (hR 0) (by decide)) (hR 1) (by decide)) (hR 2) (by decide)).b53 (by decide)) ((hR 3).b53 (by decide)) own_d1_27 ?_
  show own_G p e below s _ _ _ (s₁.setTop (mkF m 28 #[.val (Value.ref a), .val (Value.double (FP.l2d ((((0 : Int64) + (g 0)) + (g 1)) + (g 2)))), .second, .val (Value.ref a), .val (Value.int (4 : Int32)), .val (Value.int (3 : Int32)), .val (Value.double (FP.l2d (g 3))), .second] [(Value.double (FP.l2d (((((0 : Int64) + (g 0)) + (g 1)) + (g 2)) + (g 3))))]))
  refine own_dstoreN X0 hx hby own_d1_28 (l' := #[.val (Value.ref a), .val (Value.double (FP.l2d (((((0 : Int64) + (g 0)) + (g 1)) + (g 2)) + (g 3)))), .second, .val (Value.ref a), .val (Value.int (4 : Int32)), .val (Value.int (3 : Int32)), .val (Value.double (FP.l2d (g 3))), .second]) rfl ?_
  show own_G p e below s _ _ _ (s₁.setTop (mkF m 29 #[.val (Value.ref a), .val (Value.double (FP.l2d (((((0 : Int64) + (g 0)) + (g 1)) + (g 2)) + (g 3)))), .second, .val (Value.ref a), .val (Value.int (4 : Int32)), .val (Value.int (3 : Int32)), .val (Value.double (FP.l2d (g 3))), .second] []))
  refine own_iinc X0 hx hby own_d1_29 rfl (l' := #[.val (Value.ref a), .val (Value.double (FP.l2d (((((0 : Int64) + (g 0)) + (g 1)) + (g 2)) + (g 3)))), .second, .val (Value.ref a), .val (Value.int (4 : Int32)), .val (Value.int (4 : Int32)), .val (Value.double (FP.l2d (g 3))), .second]) rfl ?_
  show own_G p e below s _ _ _ (s₁.setTop (mkF m 32 #[.val (Value.ref a), .val (Value.double (FP.l2d (((((0 : Int64) + (g 0)) + (g 1)) + (g 2)) + (g 3)))), .second, .val (Value.ref a), .val (Value.int (4 : Int32)), .val (Value.int (4 : Int32)), .val (Value.double (FP.l2d (g 3))), .second] []))
  refine own_goto X0 hx hby own_d1_32 (pc' := 11) (by decide) (by decide) ?_
  show own_G p e below s _ _ _ (s₁.setTop (mkF m 11 #[.val (Value.ref a), .val (Value.double (FP.l2d (((((0 : Int64) + (g 0)) + (g 1)) + (g 2)) + (g 3)))), .second, .val (Value.ref a), .val (Value.int (4 : Int32)), .val (Value.int (4 : Int32)), .val (Value.double (FP.l2d (g 3))), .second] []))
  refine own_iload X0 hx hby own_d1_11 rfl ?_
  show own_G p e below s _ _ _ (s₁.setTop (mkF m 13 #[.val (Value.ref a), .val (Value.double (FP.l2d (((((0 : Int64) + (g 0)) + (g 1)) + (g 2)) + (g 3)))), .second, .val (Value.ref a), .val (Value.int (4 : Int32)), .val (Value.int (4 : Int32)), .val (Value.double (FP.l2d (g 3))), .second] [(Value.int (4 : Int32))]))
  refine own_iload X0 hx hby own_d1_13 rfl ?_
  show own_G p e below s _ _ _ (s₁.setTop (mkF m 15 #[.val (Value.ref a), .val (Value.double (FP.l2d (((((0 : Int64) + (g 0)) + (g 1)) + (g 2)) + (g 3)))), .second, .val (Value.ref a), .val (Value.int (4 : Int32)), .val (Value.int (4 : Int32)), .val (Value.double (FP.l2d (g 3))), .second] [(Value.int (4 : Int32)), (Value.int (4 : Int32))]))
  refine own_icmp_ge X0 hx hby own_d1_15 (pc' := 35) (by decide) (by decide) (fun hb5 => ?_) (fun hb5 => by exfalso; revert hb5; decide)
  show own_G p e below s _ _ _ (s₁.setTop (mkF m 35 #[.val (Value.ref a), .val (Value.double (FP.l2d (((((0 : Int64) + (g 0)) + (g 1)) + (g 2)) + (g 3)))), .second, .val (Value.ref a), .val (Value.int (4 : Int32)), .val (Value.int (4 : Int32)), .val (Value.double (FP.l2d (g 3))), .second] []))
  refine own_dloadN X0 hx hby own_d1_35 rfl ?_
  show own_G p e below s _ _ _ (s₁.setTop (mkF m 36 #[.val (Value.ref a), .val (Value.double (FP.l2d (((((0 : Int64) + (g 0)) + (g 1)) + (g 2)) + (g 3)))), .second, .val (Value.ref a), .val (Value.int (4 : Int32)), .val (Value.int (4 : Int32)), .val (Value.double (FP.l2d (g 3))), .second] [(Value.double (FP.l2d (((((0 : Int64) + (g 0)) + (g 1)) + (g 2)) + (g 3))))]))
  refine own_retD X0 hx hby hlk Bd.returns own_d1_36 (by decide) (by decide) ?_
  refine ⟨?_, e0, N0⟩
  show some (Value.double (FP.l2d (((((0 : Int64) + (g 0)) + (g 1)) + (g 2)) + (g 3)))) = _
  rfl
def own_rm0_Q (Z : State) (x0 : Int32) (x1 : Int32) (x2 : Int32) (x3 : Int32) (x4 : Int32)  (h0 : Heap) (n0 : Nat) : Option Value → Heap → List Loc → Prop := fun v h L => v = some (.int 1) ∧ Fr n0 L
theorem own_rm0_ef (m : MethodId) (x0 : Int32) (x1 : Int32) (x2 : Int32) (x3 : Int32) (x4 : Int32)  : entryFrame m #[(Value.int x0), (Value.int x1), (Value.int x2), (Value.int x3), (Value.int x4)] maxLocals = mkF m 0 #[.val (Value.int x0), .val (Value.int x1), .val (Value.int x2), .val (Value.int x3), .val (Value.int x4), .unset, .unset, .unset, .unset, .unset, .unset] [] := by first | (simp [entryFrame, mkF, argsToLocals, Value.category, maxLocals]; done) | rfl
set_option maxRecDepth 65536 in
set_option maxHeartbeats 40000000 in
theorem own_rm0 (l : Launch) (Z : State) (a0 : Array Value) (hw : ∀ d ∈ tables_1, d.before a0 Z = true) (ws : List Jvm.Cond) (x0 : Int32) (x1 : Int32) (x2 : Int32) (x3 : Int32) (x4 : Int32)  (h0 : Heap) (n0 : Nat) (O0 : Old Z n0 h0)  :
    MetFree l x (head1 (Jvm.Cond.code x code maxLocals ret :: ws) room_1) (fun aa_ U => aa_ = #[(Value.int x0), (Value.int x1), (Value.int x2), (Value.int x3), (Value.int x4)] ∧ Z.Warmed39 U.vm ∧ U.heap = h0) (fun _ _ _ _ _ => True) (fun _ UU_ oo_ UX_ => ∃ vv_ LL_, oo_ = .returned vv_ ∧ (own_rm0_Q Z x0 x1 x2 x3 x4 h0 n0) vv_ UX_.heap LL_ ∧ FrameEnd UU_ oo_ UX_ LL_ 16 128) := by
  refine MetFree.of_bodySF (plainFor_of_name own_pn1) hisR ?_
  intro p e s m args below meth c s₁ Bd hml0 hP hK
  obtain ⟨rfl, hZ, hh⟩ := hP
  have hx := Bd.exec
  have hby := Bd.bytes
  have hml : c.maxLocals = 11 := hml0
  have hown : s.vm.findClass "com/example/wattfloor/wattfloor/market/VectorsSumPinLaw" = some m.cls := findClass_of_methodNamed Bd.named
  have hnm := (name_of_methodNamed Bd.named Bd.method).1
  have hlk : meth.locks = false := BodyLoose.notSynchronized Bd
  have X0 : Stand p l e room_1 s m #[(Value.int x0), (Value.int x1), (Value.int x2), (Value.int x3), (Value.int x4)] below meth c s₁ [] 0 0 := Stand.of_body Bd
  have e0 : s₁.heap = h0 := by rw [← hh, Bd.state]; rfl
  have N0 := Fr.nil n0
  show own_G p e below s (own_rm0_Q Z x0 x1 x2 x3 x4 h0 n0) 16 128 (s₁.setTop (entryFrame m #[(Value.int x0), (Value.int x1), (Value.int x2), (Value.int x3), (Value.int x4)] maxLocals))
  refine own_cast (own_rm0_ef m x0 x1 x2 x3 x4 ) ?_
  show own_G p e below s _ _ _ (s₁.setTop (mkF m 0 #[.val (Value.int x0), .val (Value.int x1), .val (Value.int x2), .val (Value.int x3), .val (Value.int x4), .unset, .unset, .unset, .unset, .unset, .unset] []))
  refine own_iloadN X0 hx hby at_0 rfl ?_
  show own_G p e below s _ _ _ (s₁.setTop (mkF m 1 #[.val (Value.int x0), .val (Value.int x1), .val (Value.int x2), .val (Value.int x3), .val (Value.int x4), .unset, .unset, .unset, .unset, .unset, .unset] [(Value.int x0)]))
  refine own_bipush X0 hx hby at_1 ?_
  show own_G p e below s _ _ _ (s₁.setTop (mkF m 3 #[.val (Value.int x0), .val (Value.int x1), .val (Value.int x2), .val (Value.int x3), .val (Value.int x4), .unset, .unset, .unset, .unset, .unset, .unset] [(Value.int (7 : Int32)), (Value.int x0)]))
  refine own_iand X0 hx hby at_3 ?_
  show own_G p e below s _ _ _ (s₁.setTop (mkF m 4 #[.val (Value.int x0), .val (Value.int x1), .val (Value.int x2), .val (Value.int x3), .val (Value.int x4), .unset, .unset, .unset, .unset, .unset, .unset] [(Value.int (x0 &&& (7 : Int32)))]))
  refine own_iconst X0 hx hby at_4 ?_
  show own_G p e below s _ _ _ (s₁.setTop (mkF m 5 #[.val (Value.int x0), .val (Value.int x1), .val (Value.int x2), .val (Value.int x3), .val (Value.int x4), .unset, .unset, .unset, .unset, .unset, .unset] [(Value.int (5 : Int32)), (Value.int (x0 &&& (7 : Int32)))]))
  refine own_irem X0 hx hby at_5 (by decide) ?_
  show own_G p e below s _ _ _ (s₁.setTop (mkF m 6 #[.val (Value.int x0), .val (Value.int x1), .val (Value.int x2), .val (Value.int x3), .val (Value.int x4), .unset, .unset, .unset, .unset, .unset, .unset] [(Value.int ((x0 &&& (7 : Int32)) % (5 : Int32)))]))
  rcases own_mod5 x0 with hk | hk | hk | hk | hk
  · rw [hk]
    show own_G p e below s _ _ _ (s₁.setTop (mkF m 6 #[.val (Value.int x0), .val (Value.int x1), .val (Value.int x2), .val (Value.int x3), .val (Value.int x4), .unset, .unset, .unset, .unset, .unset, .unset] [(Value.int (0 : Int32))]))
    refine own_istore X0 hx hby at_6 (l' := #[.val (Value.int x0), .val (Value.int x1), .val (Value.int x2), .val (Value.int x3), .val (Value.int x4), .val (Value.int (0 : Int32)), .unset, .unset, .unset, .unset, .unset]) rfl ?_
    show own_G p e below s _ _ _ (s₁.setTop (mkF m 8 #[.val (Value.int x0), .val (Value.int x1), .val (Value.int x2), .val (Value.int x3), .val (Value.int x4), .val (Value.int (0 : Int32)), .unset, .unset, .unset, .unset, .unset] []))
    refine own_iload X0 hx hby at_8 rfl ?_
    show own_G p e below s _ _ _ (s₁.setTop (mkF m 10 #[.val (Value.int x0), .val (Value.int x1), .val (Value.int x2), .val (Value.int x3), .val (Value.int x4), .val (Value.int (0 : Int32)), .unset, .unset, .unset, .unset, .unset] [(Value.int (0 : Int32))]))
    refine own_if_ne X0 hx hby at_10 (pc' := 24) (by decide) (by decide) (fun hb1 => by exfalso; revert hb1; decide) (fun hb1 => ?_)
    show own_G p e below s _ _ _ (s₁.setTop (mkF m 13 #[.val (Value.int x0), .val (Value.int x1), .val (Value.int x2), .val (Value.int x3), .val (Value.int x4), .val (Value.int (0 : Int32)), .unset, .unset, .unset, .unset, .unset] []))
    refine own_iconst X0 hx hby at_13 ?_
    show own_G p e below s _ _ _ (s₁.setTop (mkF m 14 #[.val (Value.int x0), .val (Value.int x1), .val (Value.int x2), .val (Value.int x3), .val (Value.int x4), .val (Value.int (0 : Int32)), .unset, .unset, .unset, .unset, .unset] [(Value.int (0 : Int32))]))
    obtain ⟨T2, h2, k2, X2, e2, E2, A2, st2⟩ := newP X0 hx hZ (aty := .double) (own_w0 hw) e0 (g := (mkF m 14 #[.val (Value.int x0), .val (Value.int x1), .val (Value.int x2), .val (Value.int x3), .val (Value.int x4), .val (Value.int (0 : Int32)), .unset, .unset, .unset, .unset, .unset] [(Value.int (0 : Int32))])) rfl (hb hby at_14) rfl (by decide) (cap := 0) (by decide) (by decide) (by decide) (by decide)
    obtain ⟨ad2, g2⟩ : ∃ z, z = h0.size := ⟨_, rfl⟩
    rw [← g2] at A2 st2
    have O3 := Old.ext O0 E2
    have g2n : n0 ≤ ad2 := by rw [g2]; exact O0.1 ▸ O0.2.1
    have A2v : own_Ar Z h2 ad2 .double 0 (fun _ => (.double (0 : UInt64))) := own_Ar.new A2 (by decide)
    refine own_st st2 ?_
    show own_G p e below s _ _ _ (T2.setTop (mkF m 16 #[.val (Value.int x0), .val (Value.int x1), .val (Value.int x2), .val (Value.int x3), .val (Value.int x4), .val (Value.int (0 : Int32)), .unset, .unset, .unset, .unset, .unset] [(Value.ref ad2)]))
    refine own_astore X2 hx hby at_16 rfl (l' := #[.val (Value.int x0), .val (Value.int x1), .val (Value.int x2), .val (Value.int x3), .val (Value.int x4), .val (Value.int (0 : Int32)), .val (Value.ref ad2), .unset, .unset, .unset, .unset]) rfl ?_
    show own_G p e below s _ _ _ (T2.setTop (mkF m 18 #[.val (Value.int x0), .val (Value.int x1), .val (Value.int x2), .val (Value.int x3), .val (Value.int x4), .val (Value.int (0 : Int32)), .val (Value.ref ad2), .unset, .unset, .unset, .unset] []))
    refine own_lconst X2 hx hby at_18 ?_
    show own_G p e below s _ _ _ (T2.setTop (mkF m 19 #[.val (Value.int x0), .val (Value.int x1), .val (Value.int x2), .val (Value.int x3), .val (Value.int x4), .val (Value.int (0 : Int32)), .val (Value.ref ad2), .unset, .unset, .unset, .unset] [(Value.long (0 : Int64))]))
    refine own_lstore X2 hx hby at_19 (l' := #[.val (Value.int x0), .val (Value.int x1), .val (Value.int x2), .val (Value.int x3), .val (Value.int x4), .val (Value.int (0 : Int32)), .val (Value.ref ad2), .val (Value.long (0 : Int64)), .second, .unset, .unset]) rfl ?_
    show own_G p e below s _ _ _ (T2.setTop (mkF m 21 #[.val (Value.int x0), .val (Value.int x1), .val (Value.int x2), .val (Value.int x3), .val (Value.int x4), .val (Value.int (0 : Int32)), .val (Value.ref ad2), .val (Value.long (0 : Int64)), .second, .unset, .unset] []))
    refine own_goto X2 hx hby at_21 (pc' := 157) (by decide) (by decide) ?_
    show own_G p e below s _ _ _ (T2.setTop (mkF m 157 #[.val (Value.int x0), .val (Value.int x1), .val (Value.int x2), .val (Value.int x3), .val (Value.int x4), .val (Value.int (0 : Int32)), .val (Value.ref ad2), .val (Value.long (0 : Int64)), .second, .unset, .unset] []))
    have Ab : own_Ar Z h2 ad2 .double 0 (fun j => .double (FP.l2d (own_gk x1 x2 x3 x4 j))) := own_Ar.fn A2v (by intro j hj; omega)
    refine own_aload X2 hx hby at_157 rfl rfl ?_
    show own_G p e below s _ _ _ (T2.setTop (mkF m 159 #[.val (Value.int x0), .val (Value.int x1), .val (Value.int x2), .val (Value.int x3), .val (Value.int x4), .val (Value.int (0 : Int32)), .val (Value.ref ad2), .val (Value.long (0 : Int64)), .second, .unset, .unset] [(Value.ref ad2)]))
    obtain ⟨_, _, ⟨T4, L4, k4, n4⟩, -, X4, ⟨Lc4, hQ4, l4, y4, z4⟩, st4⟩ := Jvm.LawKit.callS X2 hx (y := (⟨"com/example/wattfloor/wattfloor/market/Vectors", "sum", "([D)D"⟩ : MethodName)) hown (mvT hZ (own_w1 hw)) (mvT hZ (own_w2 hw)) (mvT hZ (own_w3 hw)) (mvT hZ (own_w4 hw)) (by decide) (backOf (W := 0) (own_rmS0 l Z a0 hw [] ad2 (own_gk x1 x2 x3 x4) h2 n0 O3  Ab (own_gk_R x1 x2 x3 x4)) hZ (own_w4 hw) (own_w3 hw) (by decide) (by decide)) (g := (mkF m 159 #[.val (Value.int x0), .val (Value.int x1), .val (Value.int x2), .val (Value.int x3), .val (Value.int x4), .val (Value.int (0 : Int32)), .val (Value.ref ad2), .val (Value.long (0 : Int64)), .second, .unset, .unset] [(Value.ref ad2)])) rfl (by rw [hml]; rfl) (argsL := [(Value.ref ad2)]) (rest := []) (lenOf own_pd0 rfl) rfl (by show 2 * 0 + _ ≤ _; exact Nat.le_of_eq rfl) (hb hby at_159) (fun _ _ => ⟨rfl, e2, (by decide : (1 : Nat) + 0 ≤ _), (by decide : (0 : Nat) + 0 ≤ _)⟩)
    dsimp only [Pt.U, Pt.locs, Pt.cells, Pt.slots] at X4 l4 y4 z4 st4 hQ4
    subst l4 y4 z4
    obtain ⟨rfl, e4, Nq4⟩ := hQ4
    have N4 := Fr.app N0 Nq4
    refine own_st st4 ?_
    show own_G p e below s _ _ _ (T4.setTop (mkF m 162 #[.val (Value.int x0), .val (Value.int x1), .val (Value.int x2), .val (Value.int x3), .val (Value.int x4), .val (Value.int (0 : Int32)), .val (Value.ref ad2), .val (Value.long (0 : Int64)), .second, .unset, .unset] [(Value.double (FP.l2d (0 : Int64)))]))
    refine own_dstore X4 hx hby at_162 (l' := #[.val (Value.int x0), .val (Value.int x1), .val (Value.int x2), .val (Value.int x3), .val (Value.int x4), .val (Value.int (0 : Int32)), .val (Value.ref ad2), .val (Value.long (0 : Int64)), .second, .val (Value.double (FP.l2d (0 : Int64))), .second]) rfl ?_
    show own_G p e below s _ _ _ (T4.setTop (mkF m 164 #[.val (Value.int x0), .val (Value.int x1), .val (Value.int x2), .val (Value.int x3), .val (Value.int x4), .val (Value.int (0 : Int32)), .val (Value.ref ad2), .val (Value.long (0 : Int64)), .second, .val (Value.double (FP.l2d (0 : Int64))), .second] []))
    refine own_dload X4 hx hby at_164 rfl ?_
    show own_G p e below s _ _ _ (T4.setTop (mkF m 166 #[.val (Value.int x0), .val (Value.int x1), .val (Value.int x2), .val (Value.int x3), .val (Value.int x4), .val (Value.int (0 : Int32)), .val (Value.ref ad2), .val (Value.long (0 : Int64)), .second, .val (Value.double (FP.l2d (0 : Int64))), .second] [(Value.double (FP.l2d (0 : Int64)))]))
    refine own_lload X4 hx hby at_166 rfl ?_
    show own_G p e below s _ _ _ (T4.setTop (mkF m 168 #[.val (Value.int x0), .val (Value.int x1), .val (Value.int x2), .val (Value.int x3), .val (Value.int x4), .val (Value.int (0 : Int32)), .val (Value.ref ad2), .val (Value.long (0 : Int64)), .second, .val (Value.double (FP.l2d (0 : Int64))), .second] [(Value.long (0 : Int64)), (Value.double (FP.l2d (0 : Int64)))]))
    refine own_l2d X4 hx hby at_168 ?_
    show own_G p e below s _ _ _ (T4.setTop (mkF m 169 #[.val (Value.int x0), .val (Value.int x1), .val (Value.int x2), .val (Value.int x3), .val (Value.int x4), .val (Value.int (0 : Int32)), .val (Value.ref ad2), .val (Value.long (0 : Int64)), .second, .val (Value.double (FP.l2d (0 : Int64))), .second] [(Value.double (FP.l2d (0 : Int64))), (Value.double (FP.l2d (0 : Int64)))]))
    refine own_dcmp_ne X4 hx hby (own_R.z.b53 (by decide)) (own_R.z.b53 (by decide)) at_169 at_170 (pc' := 177) (by decide) (by decide) (fun hb5 => by exfalso; revert hb5; decide) (fun hb5 => ?_)
    show own_G p e below s _ _ _ (T4.setTop (mkF m 173 #[.val (Value.int x0), .val (Value.int x1), .val (Value.int x2), .val (Value.int x3), .val (Value.int x4), .val (Value.int (0 : Int32)), .val (Value.ref ad2), .val (Value.long (0 : Int64)), .second, .val (Value.double (FP.l2d (0 : Int64))), .second] []))
    refine own_iconst X4 hx hby at_173 ?_
    show own_G p e below s _ _ _ (T4.setTop (mkF m 174 #[.val (Value.int x0), .val (Value.int x1), .val (Value.int x2), .val (Value.int x3), .val (Value.int x4), .val (Value.int (0 : Int32)), .val (Value.ref ad2), .val (Value.long (0 : Int64)), .second, .val (Value.double (FP.l2d (0 : Int64))), .second] [(Value.int (1 : Int32))]))
    refine own_goto X4 hx hby at_174 (pc' := 178) (by decide) (by decide) ?_
    show own_G p e below s _ _ _ (T4.setTop (mkF m 178 #[.val (Value.int x0), .val (Value.int x1), .val (Value.int x2), .val (Value.int x3), .val (Value.int x4), .val (Value.int (0 : Int32)), .val (Value.ref ad2), .val (Value.long (0 : Int64)), .second, .val (Value.double (FP.l2d (0 : Int64))), .second] [(Value.int (1 : Int32))]))
    refine own_retN X4 hx hby hlk (t := .boolean) Bd.returns (by simp) at_178 (by decide) (by decide) ?_
    exact ⟨rfl, N4⟩
  · rw [hk]
    show own_G p e below s _ _ _ (s₁.setTop (mkF m 6 #[.val (Value.int x0), .val (Value.int x1), .val (Value.int x2), .val (Value.int x3), .val (Value.int x4), .unset, .unset, .unset, .unset, .unset, .unset] [(Value.int (1 : Int32))]))
    refine own_istore X0 hx hby at_6 (l' := #[.val (Value.int x0), .val (Value.int x1), .val (Value.int x2), .val (Value.int x3), .val (Value.int x4), .val (Value.int (1 : Int32)), .unset, .unset, .unset, .unset, .unset]) rfl ?_
    show own_G p e below s _ _ _ (s₁.setTop (mkF m 8 #[.val (Value.int x0), .val (Value.int x1), .val (Value.int x2), .val (Value.int x3), .val (Value.int x4), .val (Value.int (1 : Int32)), .unset, .unset, .unset, .unset, .unset] []))
    refine own_iload X0 hx hby at_8 rfl ?_
    show own_G p e below s _ _ _ (s₁.setTop (mkF m 10 #[.val (Value.int x0), .val (Value.int x1), .val (Value.int x2), .val (Value.int x3), .val (Value.int x4), .val (Value.int (1 : Int32)), .unset, .unset, .unset, .unset, .unset] [(Value.int (1 : Int32))]))
    refine own_if_ne X0 hx hby at_10 (pc' := 24) (by decide) (by decide) (fun hb6 => ?_) (fun hb6 => by exfalso; revert hb6; decide)
    show own_G p e below s _ _ _ (s₁.setTop (mkF m 24 #[.val (Value.int x0), .val (Value.int x1), .val (Value.int x2), .val (Value.int x3), .val (Value.int x4), .val (Value.int (1 : Int32)), .unset, .unset, .unset, .unset, .unset] []))
    refine own_iload X0 hx hby at_24 rfl ?_
    show own_G p e below s _ _ _ (s₁.setTop (mkF m 26 #[.val (Value.int x0), .val (Value.int x1), .val (Value.int x2), .val (Value.int x3), .val (Value.int x4), .val (Value.int (1 : Int32)), .unset, .unset, .unset, .unset, .unset] [(Value.int (1 : Int32))]))
    refine own_iconst X0 hx hby at_26 ?_
    show own_G p e below s _ _ _ (s₁.setTop (mkF m 27 #[.val (Value.int x0), .val (Value.int x1), .val (Value.int x2), .val (Value.int x3), .val (Value.int x4), .val (Value.int (1 : Int32)), .unset, .unset, .unset, .unset, .unset] [(Value.int (1 : Int32)), (Value.int (1 : Int32))]))
    refine own_icmp_ne X0 hx hby at_27 (pc' := 47) (by decide) (by decide) (fun hb7 => by exfalso; revert hb7; decide) (fun hb7 => ?_)
    show own_G p e below s _ _ _ (s₁.setTop (mkF m 30 #[.val (Value.int x0), .val (Value.int x1), .val (Value.int x2), .val (Value.int x3), .val (Value.int x4), .val (Value.int (1 : Int32)), .unset, .unset, .unset, .unset, .unset] []))
    refine own_iconst X0 hx hby at_30 ?_
    show own_G p e below s _ _ _ (s₁.setTop (mkF m 31 #[.val (Value.int x0), .val (Value.int x1), .val (Value.int x2), .val (Value.int x3), .val (Value.int x4), .val (Value.int (1 : Int32)), .unset, .unset, .unset, .unset, .unset] [(Value.int (1 : Int32))]))
    obtain ⟨T8, h8, k8, X8, e8, E8, A8, st8⟩ := newP X0 hx hZ (aty := .double) (own_w0 hw) e0 (g := (mkF m 31 #[.val (Value.int x0), .val (Value.int x1), .val (Value.int x2), .val (Value.int x3), .val (Value.int x4), .val (Value.int (1 : Int32)), .unset, .unset, .unset, .unset, .unset] [(Value.int (1 : Int32))])) rfl (hb hby at_31) rfl (by decide) (cap := 1) (by decide) (by decide) (by decide) (by decide)
    obtain ⟨ad8, g8⟩ : ∃ z, z = h0.size := ⟨_, rfl⟩
    rw [← g8] at A8 st8
    have O9 := Old.ext O0 E8
    have g8n : n0 ≤ ad8 := by rw [g8]; exact O0.1 ▸ O0.2.1
    have A8v : own_Ar Z h8 ad8 .double 1 (fun _ => (.double (0 : UInt64))) := own_Ar.new A8 (by decide)
    refine own_st st8 ?_
    show own_G p e below s _ _ _ (T8.setTop (mkF m 33 #[.val (Value.int x0), .val (Value.int x1), .val (Value.int x2), .val (Value.int x3), .val (Value.int x4), .val (Value.int (1 : Int32)), .unset, .unset, .unset, .unset, .unset] [(Value.ref ad8)]))
    refine own_dup X8 hx hby at_33 rfl ?_
    show own_G p e below s _ _ _ (T8.setTop (mkF m 34 #[.val (Value.int x0), .val (Value.int x1), .val (Value.int x2), .val (Value.int x3), .val (Value.int x4), .val (Value.int (1 : Int32)), .unset, .unset, .unset, .unset, .unset] [(Value.ref ad8), (Value.ref ad8)]))
    refine own_iconst X8 hx hby at_34 ?_
    show own_G p e below s _ _ _ (T8.setTop (mkF m 35 #[.val (Value.int x0), .val (Value.int x1), .val (Value.int x2), .val (Value.int x3), .val (Value.int x4), .val (Value.int (1 : Int32)), .unset, .unset, .unset, .unset, .unset] [(Value.int (0 : Int32)), (Value.ref ad8), (Value.ref ad8)]))
    refine own_iloadN X8 hx hby at_35 rfl ?_
    show own_G p e below s _ _ _ (T8.setTop (mkF m 36 #[.val (Value.int x0), .val (Value.int x1), .val (Value.int x2), .val (Value.int x3), .val (Value.int x4), .val (Value.int (1 : Int32)), .unset, .unset, .unset, .unset, .unset] [(Value.int x1), (Value.int (0 : Int32)), (Value.ref ad8), (Value.ref ad8)]))
    refine own_i2d X8 hx hby at_36 ?_
    show own_G p e below s _ _ _ (T8.setTop (mkF m 37 #[.val (Value.int x0), .val (Value.int x1), .val (Value.int x2), .val (Value.int x3), .val (Value.int x4), .val (Value.int (1 : Int32)), .unset, .unset, .unset, .unset, .unset] [(Value.double (FP.l2d (x1.toInt64))), (Value.int (0 : Int32)), (Value.ref ad8), (Value.ref ad8)]))
    obtain ⟨T10, h10, X10, e10, W10, A10, st10⟩ := own_dastore X8 hx hby hZ e8 A8v (j := (0 : Int32)) (i := 0) (by decide) (by decide) (x := (FP.l2d (x1.toInt64))) at_37 (Ls := #[.val (Value.int x0), .val (Value.int x1), .val (Value.int x2), .val (Value.int x3), .val (Value.int x4), .val (Value.int (1 : Int32)), .unset, .unset, .unset, .unset, .unset]) (st := [(Value.ref ad8)])
    have O11 := Old.wr O9 W10 g8n
    have N10 := Fr.snoc X10 N0 g8n
    refine own_st st10 ?_
    show own_G p e below s _ _ _ (T10.setTop (mkF m 38 #[.val (Value.int x0), .val (Value.int x1), .val (Value.int x2), .val (Value.int x3), .val (Value.int x4), .val (Value.int (1 : Int32)), .unset, .unset, .unset, .unset, .unset] [(Value.ref ad8)]))
    refine own_astore X10 hx hby at_38 rfl (l' := #[.val (Value.int x0), .val (Value.int x1), .val (Value.int x2), .val (Value.int x3), .val (Value.int x4), .val (Value.int (1 : Int32)), .val (Value.ref ad8), .unset, .unset, .unset, .unset]) rfl ?_
    show own_G p e below s _ _ _ (T10.setTop (mkF m 40 #[.val (Value.int x0), .val (Value.int x1), .val (Value.int x2), .val (Value.int x3), .val (Value.int x4), .val (Value.int (1 : Int32)), .val (Value.ref ad8), .unset, .unset, .unset, .unset] []))
    refine own_iloadN X10 hx hby at_40 rfl ?_
    show own_G p e below s _ _ _ (T10.setTop (mkF m 41 #[.val (Value.int x0), .val (Value.int x1), .val (Value.int x2), .val (Value.int x3), .val (Value.int x4), .val (Value.int (1 : Int32)), .val (Value.ref ad8), .unset, .unset, .unset, .unset] [(Value.int x1)]))
    refine own_i2l X10 hx hby at_41 ?_
    show own_G p e below s _ _ _ (T10.setTop (mkF m 42 #[.val (Value.int x0), .val (Value.int x1), .val (Value.int x2), .val (Value.int x3), .val (Value.int x4), .val (Value.int (1 : Int32)), .val (Value.ref ad8), .unset, .unset, .unset, .unset] [(Value.long (x1.toInt64))]))
    refine own_lstore X10 hx hby at_42 (l' := #[.val (Value.int x0), .val (Value.int x1), .val (Value.int x2), .val (Value.int x3), .val (Value.int x4), .val (Value.int (1 : Int32)), .val (Value.ref ad8), .val (Value.long (x1.toInt64)), .second, .unset, .unset]) rfl ?_
    show own_G p e below s _ _ _ (T10.setTop (mkF m 44 #[.val (Value.int x0), .val (Value.int x1), .val (Value.int x2), .val (Value.int x3), .val (Value.int x4), .val (Value.int (1 : Int32)), .val (Value.ref ad8), .val (Value.long (x1.toInt64)), .second, .unset, .unset] []))
    refine own_goto X10 hx hby at_44 (pc' := 157) (by decide) (by decide) ?_
    show own_G p e below s _ _ _ (T10.setTop (mkF m 157 #[.val (Value.int x0), .val (Value.int x1), .val (Value.int x2), .val (Value.int x3), .val (Value.int x4), .val (Value.int (1 : Int32)), .val (Value.ref ad8), .val (Value.long (x1.toInt64)), .second, .unset, .unset] []))
    have Ab : own_Ar Z h10 ad8 .double 1 (fun j => .double (FP.l2d (own_gk x1 x2 x3 x4 j))) := own_Ar.fn A10 (by intro j hj; have hj2 : j = 0 := (by omega); rcases hj2 with rfl <;> rfl)
    refine own_aload X10 hx hby at_157 rfl rfl ?_
    show own_G p e below s _ _ _ (T10.setTop (mkF m 159 #[.val (Value.int x0), .val (Value.int x1), .val (Value.int x2), .val (Value.int x3), .val (Value.int x4), .val (Value.int (1 : Int32)), .val (Value.ref ad8), .val (Value.long (x1.toInt64)), .second, .unset, .unset] [(Value.ref ad8)]))
    obtain ⟨_, _, ⟨T12, L12, k12, n12⟩, -, X12, ⟨Lc12, hQ12, l12, y12, z12⟩, st12⟩ := Jvm.LawKit.callS X10 hx (y := (⟨"com/example/wattfloor/wattfloor/market/Vectors", "sum", "([D)D"⟩ : MethodName)) hown (mvT hZ (own_w1 hw)) (mvT hZ (own_w2 hw)) (mvT hZ (own_w3 hw)) (mvT hZ (own_w4 hw)) (by decide) (backOf (W := 0) (own_rmS1 l Z a0 hw [] ad8 (own_gk x1 x2 x3 x4) h10 n0 O11  Ab (own_gk_R x1 x2 x3 x4)) hZ (own_w4 hw) (own_w3 hw) (by decide) (by decide)) (g := (mkF m 159 #[.val (Value.int x0), .val (Value.int x1), .val (Value.int x2), .val (Value.int x3), .val (Value.int x4), .val (Value.int (1 : Int32)), .val (Value.ref ad8), .val (Value.long (x1.toInt64)), .second, .unset, .unset] [(Value.ref ad8)])) rfl (by rw [hml]; rfl) (argsL := [(Value.ref ad8)]) (rest := []) (lenOf own_pd0 rfl) rfl (by show 2 * 0 + _ ≤ _; exact Nat.le_of_eq rfl) (hb hby at_159) (fun _ _ => ⟨rfl, e10, (by decide : (1 : Nat) + 0 ≤ _), (by decide : (1 : Nat) + 0 ≤ _)⟩)
    dsimp only [Pt.U, Pt.locs, Pt.cells, Pt.slots] at X12 l12 y12 z12 st12 hQ12
    subst l12 y12 z12
    obtain ⟨rfl, e12, Nq12⟩ := hQ12
    have N12 := Fr.app N10 Nq12
    refine own_st st12 ?_
    show own_G p e below s _ _ _ (T12.setTop (mkF m 162 #[.val (Value.int x0), .val (Value.int x1), .val (Value.int x2), .val (Value.int x3), .val (Value.int x4), .val (Value.int (1 : Int32)), .val (Value.ref ad8), .val (Value.long (x1.toInt64)), .second, .unset, .unset] [(Value.double (FP.l2d ((0 : Int64) + (own_gk x1 x2 x3 x4 0))))]))
    refine own_dstore X12 hx hby at_162 (l' := #[.val (Value.int x0), .val (Value.int x1), .val (Value.int x2), .val (Value.int x3), .val (Value.int x4), .val (Value.int (1 : Int32)), .val (Value.ref ad8), .val (Value.long (x1.toInt64)), .second, .val (Value.double (FP.l2d ((0 : Int64) + (own_gk x1 x2 x3 x4 0)))), .second]) rfl ?_
    show own_G p e below s _ _ _ (T12.setTop (mkF m 164 #[.val (Value.int x0), .val (Value.int x1), .val (Value.int x2), .val (Value.int x3), .val (Value.int x4), .val (Value.int (1 : Int32)), .val (Value.ref ad8), .val (Value.long (x1.toInt64)), .second, .val (Value.double (FP.l2d ((0 : Int64) + (own_gk x1 x2 x3 x4 0)))), .second] []))
    refine own_dload X12 hx hby at_164 rfl ?_
    show own_G p e below s _ _ _ (T12.setTop (mkF m 166 #[.val (Value.int x0), .val (Value.int x1), .val (Value.int x2), .val (Value.int x3), .val (Value.int x4), .val (Value.int (1 : Int32)), .val (Value.ref ad8), .val (Value.long (x1.toInt64)), .second, .val (Value.double (FP.l2d ((0 : Int64) + (own_gk x1 x2 x3 x4 0)))), .second] [(Value.double (FP.l2d ((0 : Int64) + (own_gk x1 x2 x3 x4 0))))]))
    refine own_lload X12 hx hby at_166 rfl ?_
    show own_G p e below s _ _ _ (T12.setTop (mkF m 168 #[.val (Value.int x0), .val (Value.int x1), .val (Value.int x2), .val (Value.int x3), .val (Value.int x4), .val (Value.int (1 : Int32)), .val (Value.ref ad8), .val (Value.long (x1.toInt64)), .second, .val (Value.double (FP.l2d ((0 : Int64) + (own_gk x1 x2 x3 x4 0)))), .second] [(Value.long (x1.toInt64)), (Value.double (FP.l2d ((0 : Int64) + (own_gk x1 x2 x3 x4 0))))]))
    refine own_l2d X12 hx hby at_168 ?_
    show own_G p e below s _ _ _ (T12.setTop (mkF m 169 #[.val (Value.int x0), .val (Value.int x1), .val (Value.int x2), .val (Value.int x3), .val (Value.int x4), .val (Value.int (1 : Int32)), .val (Value.ref ad8), .val (Value.long (x1.toInt64)), .second, .val (Value.double (FP.l2d ((0 : Int64) + (own_gk x1 x2 x3 x4 0)))), .second] [(Value.double (FP.l2d (x1.toInt64))), (Value.double (FP.l2d ((0 : Int64) + (own_gk x1 x2 x3 x4 0))))]))
    refine own_dcmp_ne X12 hx hby ((own_R.add own_R.z (own_gk_R x1 x2 x3 x4 0) (by decide)).b53 (by decide)) ((own_R.i x1).b53 (by decide)) at_169 at_170 (pc' := 177) (by decide) (by decide) (fun hb13 => by exfalso; exact hb13 (by show ((0 : Int64) + own_gk x1 x2 x3 x4 0) = _; simp [own_gk])) (fun hb13 => ?_)
    show own_G p e below s _ _ _ (T12.setTop (mkF m 173 #[.val (Value.int x0), .val (Value.int x1), .val (Value.int x2), .val (Value.int x3), .val (Value.int x4), .val (Value.int (1 : Int32)), .val (Value.ref ad8), .val (Value.long (x1.toInt64)), .second, .val (Value.double (FP.l2d ((0 : Int64) + (own_gk x1 x2 x3 x4 0)))), .second] []))
    refine own_iconst X12 hx hby at_173 ?_
    show own_G p e below s _ _ _ (T12.setTop (mkF m 174 #[.val (Value.int x0), .val (Value.int x1), .val (Value.int x2), .val (Value.int x3), .val (Value.int x4), .val (Value.int (1 : Int32)), .val (Value.ref ad8), .val (Value.long (x1.toInt64)), .second, .val (Value.double (FP.l2d ((0 : Int64) + (own_gk x1 x2 x3 x4 0)))), .second] [(Value.int (1 : Int32))]))
    refine own_goto X12 hx hby at_174 (pc' := 178) (by decide) (by decide) ?_
    show own_G p e below s _ _ _ (T12.setTop (mkF m 178 #[.val (Value.int x0), .val (Value.int x1), .val (Value.int x2), .val (Value.int x3), .val (Value.int x4), .val (Value.int (1 : Int32)), .val (Value.ref ad8), .val (Value.long (x1.toInt64)), .second, .val (Value.double (FP.l2d ((0 : Int64) + (own_gk x1 x2 x3 x4 0)))), .second] [(Value.int (1 : Int32))]))
    refine own_retN X12 hx hby hlk (t := .boolean) Bd.returns (by simp) at_178 (by decide) (by decide) ?_
    exact ⟨rfl, N12⟩
  · rw [hk]
    show own_G p e below s _ _ _ (s₁.setTop (mkF m 6 #[.val (Value.int x0), .val (Value.int x1), .val (Value.int x2), .val (Value.int x3), .val (Value.int x4), .unset, .unset, .unset, .unset, .unset, .unset] [(Value.int (2 : Int32))]))
    refine own_istore X0 hx hby at_6 (l' := #[.val (Value.int x0), .val (Value.int x1), .val (Value.int x2), .val (Value.int x3), .val (Value.int x4), .val (Value.int (2 : Int32)), .unset, .unset, .unset, .unset, .unset]) rfl ?_
    show own_G p e below s _ _ _ (s₁.setTop (mkF m 8 #[.val (Value.int x0), .val (Value.int x1), .val (Value.int x2), .val (Value.int x3), .val (Value.int x4), .val (Value.int (2 : Int32)), .unset, .unset, .unset, .unset, .unset] []))
    refine own_iload X0 hx hby at_8 rfl ?_
    show own_G p e below s _ _ _ (s₁.setTop (mkF m 10 #[.val (Value.int x0), .val (Value.int x1), .val (Value.int x2), .val (Value.int x3), .val (Value.int x4), .val (Value.int (2 : Int32)), .unset, .unset, .unset, .unset, .unset] [(Value.int (2 : Int32))]))
    refine own_if_ne X0 hx hby at_10 (pc' := 24) (by decide) (by decide) (fun hb14 => ?_) (fun hb14 => by exfalso; revert hb14; decide)
    show own_G p e below s _ _ _ (s₁.setTop (mkF m 24 #[.val (Value.int x0), .val (Value.int x1), .val (Value.int x2), .val (Value.int x3), .val (Value.int x4), .val (Value.int (2 : Int32)), .unset, .unset, .unset, .unset, .unset] []))
    refine own_iload X0 hx hby at_24 rfl ?_
    show own_G p e below s _ _ _ (s₁.setTop (mkF m 26 #[.val (Value.int x0), .val (Value.int x1), .val (Value.int x2), .val (Value.int x3), .val (Value.int x4), .val (Value.int (2 : Int32)), .unset, .unset, .unset, .unset, .unset] [(Value.int (2 : Int32))]))
    refine own_iconst X0 hx hby at_26 ?_
    show own_G p e below s _ _ _ (s₁.setTop (mkF m 27 #[.val (Value.int x0), .val (Value.int x1), .val (Value.int x2), .val (Value.int x3), .val (Value.int x4), .val (Value.int (2 : Int32)), .unset, .unset, .unset, .unset, .unset] [(Value.int (1 : Int32)), (Value.int (2 : Int32))]))
    refine own_icmp_ne X0 hx hby at_27 (pc' := 47) (by decide) (by decide) (fun hb15 => ?_) (fun hb15 => by exfalso; revert hb15; decide)
    show own_G p e below s _ _ _ (s₁.setTop (mkF m 47 #[.val (Value.int x0), .val (Value.int x1), .val (Value.int x2), .val (Value.int x3), .val (Value.int x4), .val (Value.int (2 : Int32)), .unset, .unset, .unset, .unset, .unset] []))
    refine own_iload X0 hx hby at_47 rfl ?_
    show own_G p e below s _ _ _ (s₁.setTop (mkF m 49 #[.val (Value.int x0), .val (Value.int x1), .val (Value.int x2), .val (Value.int x3), .val (Value.int x4), .val (Value.int (2 : Int32)), .unset, .unset, .unset, .unset, .unset] [(Value.int (2 : Int32))]))
    refine own_iconst X0 hx hby at_49 ?_
    show own_G p e below s _ _ _ (s₁.setTop (mkF m 50 #[.val (Value.int x0), .val (Value.int x1), .val (Value.int x2), .val (Value.int x3), .val (Value.int x4), .val (Value.int (2 : Int32)), .unset, .unset, .unset, .unset, .unset] [(Value.int (2 : Int32)), (Value.int (2 : Int32))]))
    refine own_icmp_ne X0 hx hby at_50 (pc' := 78) (by decide) (by decide) (fun hb16 => by exfalso; revert hb16; decide) (fun hb16 => ?_)
    show own_G p e below s _ _ _ (s₁.setTop (mkF m 53 #[.val (Value.int x0), .val (Value.int x1), .val (Value.int x2), .val (Value.int x3), .val (Value.int x4), .val (Value.int (2 : Int32)), .unset, .unset, .unset, .unset, .unset] []))
    refine own_iconst X0 hx hby at_53 ?_
    show own_G p e below s _ _ _ (s₁.setTop (mkF m 54 #[.val (Value.int x0), .val (Value.int x1), .val (Value.int x2), .val (Value.int x3), .val (Value.int x4), .val (Value.int (2 : Int32)), .unset, .unset, .unset, .unset, .unset] [(Value.int (2 : Int32))]))
    obtain ⟨T17, h17, k17, X17, e17, E17, A17, st17⟩ := newP X0 hx hZ (aty := .double) (own_w0 hw) e0 (g := (mkF m 54 #[.val (Value.int x0), .val (Value.int x1), .val (Value.int x2), .val (Value.int x3), .val (Value.int x4), .val (Value.int (2 : Int32)), .unset, .unset, .unset, .unset, .unset] [(Value.int (2 : Int32))])) rfl (hb hby at_54) rfl (by decide) (cap := 2) (by decide) (by decide) (by decide) (by decide)
    obtain ⟨ad17, g17⟩ : ∃ z, z = h0.size := ⟨_, rfl⟩
    rw [← g17] at A17 st17
    have O18 := Old.ext O0 E17
    have g17n : n0 ≤ ad17 := by rw [g17]; exact O0.1 ▸ O0.2.1
    have A17v : own_Ar Z h17 ad17 .double 2 (fun _ => (.double (0 : UInt64))) := own_Ar.new A17 (by decide)
    refine own_st st17 ?_
    show own_G p e below s _ _ _ (T17.setTop (mkF m 56 #[.val (Value.int x0), .val (Value.int x1), .val (Value.int x2), .val (Value.int x3), .val (Value.int x4), .val (Value.int (2 : Int32)), .unset, .unset, .unset, .unset, .unset] [(Value.ref ad17)]))
    refine own_dup X17 hx hby at_56 rfl ?_
    show own_G p e below s _ _ _ (T17.setTop (mkF m 57 #[.val (Value.int x0), .val (Value.int x1), .val (Value.int x2), .val (Value.int x3), .val (Value.int x4), .val (Value.int (2 : Int32)), .unset, .unset, .unset, .unset, .unset] [(Value.ref ad17), (Value.ref ad17)]))
    refine own_iconst X17 hx hby at_57 ?_
    show own_G p e below s _ _ _ (T17.setTop (mkF m 58 #[.val (Value.int x0), .val (Value.int x1), .val (Value.int x2), .val (Value.int x3), .val (Value.int x4), .val (Value.int (2 : Int32)), .unset, .unset, .unset, .unset, .unset] [(Value.int (0 : Int32)), (Value.ref ad17), (Value.ref ad17)]))
    refine own_iloadN X17 hx hby at_58 rfl ?_
    show own_G p e below s _ _ _ (T17.setTop (mkF m 59 #[.val (Value.int x0), .val (Value.int x1), .val (Value.int x2), .val (Value.int x3), .val (Value.int x4), .val (Value.int (2 : Int32)), .unset, .unset, .unset, .unset, .unset] [(Value.int x1), (Value.int (0 : Int32)), (Value.ref ad17), (Value.ref ad17)]))
    refine own_i2d X17 hx hby at_59 ?_
    show own_G p e below s _ _ _ (T17.setTop (mkF m 60 #[.val (Value.int x0), .val (Value.int x1), .val (Value.int x2), .val (Value.int x3), .val (Value.int x4), .val (Value.int (2 : Int32)), .unset, .unset, .unset, .unset, .unset] [(Value.double (FP.l2d (x1.toInt64))), (Value.int (0 : Int32)), (Value.ref ad17), (Value.ref ad17)]))
    obtain ⟨T19, h19, X19, e19, W19, A19, st19⟩ := own_dastore X17 hx hby hZ e17 A17v (j := (0 : Int32)) (i := 0) (by decide) (by decide) (x := (FP.l2d (x1.toInt64))) at_60 (Ls := #[.val (Value.int x0), .val (Value.int x1), .val (Value.int x2), .val (Value.int x3), .val (Value.int x4), .val (Value.int (2 : Int32)), .unset, .unset, .unset, .unset, .unset]) (st := [(Value.ref ad17)])
    have O20 := Old.wr O18 W19 g17n
    have N19 := Fr.snoc X19 N0 g17n
    refine own_st st19 ?_
    show own_G p e below s _ _ _ (T19.setTop (mkF m 61 #[.val (Value.int x0), .val (Value.int x1), .val (Value.int x2), .val (Value.int x3), .val (Value.int x4), .val (Value.int (2 : Int32)), .unset, .unset, .unset, .unset, .unset] [(Value.ref ad17)]))
    refine own_dup X19 hx hby at_61 rfl ?_
    show own_G p e below s _ _ _ (T19.setTop (mkF m 62 #[.val (Value.int x0), .val (Value.int x1), .val (Value.int x2), .val (Value.int x3), .val (Value.int x4), .val (Value.int (2 : Int32)), .unset, .unset, .unset, .unset, .unset] [(Value.ref ad17), (Value.ref ad17)]))
    refine own_iconst X19 hx hby at_62 ?_
    show own_G p e below s _ _ _ (T19.setTop (mkF m 63 #[.val (Value.int x0), .val (Value.int x1), .val (Value.int x2), .val (Value.int x3), .val (Value.int x4), .val (Value.int (2 : Int32)), .unset, .unset, .unset, .unset, .unset] [(Value.int (1 : Int32)), (Value.ref ad17), (Value.ref ad17)]))
    refine own_iloadN X19 hx hby at_63 rfl ?_
    show own_G p e below s _ _ _ (T19.setTop (mkF m 64 #[.val (Value.int x0), .val (Value.int x1), .val (Value.int x2), .val (Value.int x3), .val (Value.int x4), .val (Value.int (2 : Int32)), .unset, .unset, .unset, .unset, .unset] [(Value.int x2), (Value.int (1 : Int32)), (Value.ref ad17), (Value.ref ad17)]))
    refine own_i2d X19 hx hby at_64 ?_
    show own_G p e below s _ _ _ (T19.setTop (mkF m 65 #[.val (Value.int x0), .val (Value.int x1), .val (Value.int x2), .val (Value.int x3), .val (Value.int x4), .val (Value.int (2 : Int32)), .unset, .unset, .unset, .unset, .unset] [(Value.double (FP.l2d (x2.toInt64))), (Value.int (1 : Int32)), (Value.ref ad17), (Value.ref ad17)]))
    obtain ⟨T21, h21, X21, e21, W21, A21, st21⟩ := own_dastore X19 hx hby hZ e19 A19 (j := (1 : Int32)) (i := 1) (by decide) (by decide) (x := (FP.l2d (x2.toInt64))) at_65 (Ls := #[.val (Value.int x0), .val (Value.int x1), .val (Value.int x2), .val (Value.int x3), .val (Value.int x4), .val (Value.int (2 : Int32)), .unset, .unset, .unset, .unset, .unset]) (st := [(Value.ref ad17)])
    have O22 := Old.wr O20 W21 g17n
    have N21 := Fr.snoc X21 N19 g17n
    refine own_st st21 ?_
    show own_G p e below s _ _ _ (T21.setTop (mkF m 66 #[.val (Value.int x0), .val (Value.int x1), .val (Value.int x2), .val (Value.int x3), .val (Value.int x4), .val (Value.int (2 : Int32)), .unset, .unset, .unset, .unset, .unset] [(Value.ref ad17)]))
    refine own_astore X21 hx hby at_66 rfl (l' := #[.val (Value.int x0), .val (Value.int x1), .val (Value.int x2), .val (Value.int x3), .val (Value.int x4), .val (Value.int (2 : Int32)), .val (Value.ref ad17), .unset, .unset, .unset, .unset]) rfl ?_
    show own_G p e below s _ _ _ (T21.setTop (mkF m 68 #[.val (Value.int x0), .val (Value.int x1), .val (Value.int x2), .val (Value.int x3), .val (Value.int x4), .val (Value.int (2 : Int32)), .val (Value.ref ad17), .unset, .unset, .unset, .unset] []))
    refine own_iloadN X21 hx hby at_68 rfl ?_
    show own_G p e below s _ _ _ (T21.setTop (mkF m 69 #[.val (Value.int x0), .val (Value.int x1), .val (Value.int x2), .val (Value.int x3), .val (Value.int x4), .val (Value.int (2 : Int32)), .val (Value.ref ad17), .unset, .unset, .unset, .unset] [(Value.int x1)]))
    refine own_i2l X21 hx hby at_69 ?_
    show own_G p e below s _ _ _ (T21.setTop (mkF m 70 #[.val (Value.int x0), .val (Value.int x1), .val (Value.int x2), .val (Value.int x3), .val (Value.int x4), .val (Value.int (2 : Int32)), .val (Value.ref ad17), .unset, .unset, .unset, .unset] [(Value.long (x1.toInt64))]))
    refine own_iloadN X21 hx hby at_70 rfl ?_
    show own_G p e below s _ _ _ (T21.setTop (mkF m 71 #[.val (Value.int x0), .val (Value.int x1), .val (Value.int x2), .val (Value.int x3), .val (Value.int x4), .val (Value.int (2 : Int32)), .val (Value.ref ad17), .unset, .unset, .unset, .unset] [(Value.int x2), (Value.long (x1.toInt64))]))
    refine own_i2l X21 hx hby at_71 ?_
    show own_G p e below s _ _ _ (T21.setTop (mkF m 72 #[.val (Value.int x0), .val (Value.int x1), .val (Value.int x2), .val (Value.int x3), .val (Value.int x4), .val (Value.int (2 : Int32)), .val (Value.ref ad17), .unset, .unset, .unset, .unset] [(Value.long (x2.toInt64)), (Value.long (x1.toInt64))]))
    refine own_ladd X21 hx hby at_72 ?_
    show own_G p e below s _ _ _ (T21.setTop (mkF m 73 #[.val (Value.int x0), .val (Value.int x1), .val (Value.int x2), .val (Value.int x3), .val (Value.int x4), .val (Value.int (2 : Int32)), .val (Value.ref ad17), .unset, .unset, .unset, .unset] [(Value.long ((x1.toInt64) + (x2.toInt64)))]))
    refine own_lstore X21 hx hby at_73 (l' := #[.val (Value.int x0), .val (Value.int x1), .val (Value.int x2), .val (Value.int x3), .val (Value.int x4), .val (Value.int (2 : Int32)), .val (Value.ref ad17), .val (Value.long ((x1.toInt64) + (x2.toInt64))), .second, .unset, .unset]) rfl ?_
    show own_G p e below s _ _ _ (T21.setTop (mkF m 75 #[.val (Value.int x0), .val (Value.int x1), .val (Value.int x2), .val (Value.int x3), .val (Value.int x4), .val (Value.int (2 : Int32)), .val (Value.ref ad17), .val (Value.long ((x1.toInt64) + (x2.toInt64))), .second, .unset, .unset] []))
    refine own_goto X21 hx hby at_75 (pc' := 157) (by decide) (by decide) ?_
    show own_G p e below s _ _ _ (T21.setTop (mkF m 157 #[.val (Value.int x0), .val (Value.int x1), .val (Value.int x2), .val (Value.int x3), .val (Value.int x4), .val (Value.int (2 : Int32)), .val (Value.ref ad17), .val (Value.long ((x1.toInt64) + (x2.toInt64))), .second, .unset, .unset] []))
    have Ab : own_Ar Z h21 ad17 .double 2 (fun j => .double (FP.l2d (own_gk x1 x2 x3 x4 j))) := own_Ar.fn A21 (by intro j hj; have hj2 : j = 0 ∨ j = 1 := (by omega); rcases hj2 with rfl | rfl <;> rfl)
    refine own_aload X21 hx hby at_157 rfl rfl ?_
    show own_G p e below s _ _ _ (T21.setTop (mkF m 159 #[.val (Value.int x0), .val (Value.int x1), .val (Value.int x2), .val (Value.int x3), .val (Value.int x4), .val (Value.int (2 : Int32)), .val (Value.ref ad17), .val (Value.long ((x1.toInt64) + (x2.toInt64))), .second, .unset, .unset] [(Value.ref ad17)]))
    obtain ⟨_, _, ⟨T23, L23, k23, n23⟩, -, X23, ⟨Lc23, hQ23, l23, y23, z23⟩, st23⟩ := Jvm.LawKit.callS X21 hx (y := (⟨"com/example/wattfloor/wattfloor/market/Vectors", "sum", "([D)D"⟩ : MethodName)) hown (mvT hZ (own_w1 hw)) (mvT hZ (own_w2 hw)) (mvT hZ (own_w3 hw)) (mvT hZ (own_w4 hw)) (by decide) (backOf (W := 0) (own_rmS2 l Z a0 hw [] ad17 (own_gk x1 x2 x3 x4) h21 n0 O22  Ab (own_gk_R x1 x2 x3 x4)) hZ (own_w4 hw) (own_w3 hw) (by decide) (by decide)) (g := (mkF m 159 #[.val (Value.int x0), .val (Value.int x1), .val (Value.int x2), .val (Value.int x3), .val (Value.int x4), .val (Value.int (2 : Int32)), .val (Value.ref ad17), .val (Value.long ((x1.toInt64) + (x2.toInt64))), .second, .unset, .unset] [(Value.ref ad17)])) rfl (by rw [hml]; rfl) (argsL := [(Value.ref ad17)]) (rest := []) (lenOf own_pd0 rfl) rfl (by show 2 * 0 + _ ≤ _; exact Nat.le_of_eq rfl) (hb hby at_159) (fun _ _ => ⟨rfl, e21, (by decide : (1 : Nat) + 0 ≤ _), (by decide : (2 : Nat) + 0 ≤ _)⟩)
    dsimp only [Pt.U, Pt.locs, Pt.cells, Pt.slots] at X23 l23 y23 z23 st23 hQ23
    subst l23 y23 z23
    obtain ⟨rfl, e23, Nq23⟩ := hQ23
    have N23 := Fr.app N21 Nq23
    refine own_st st23 ?_
    show own_G p e below s _ _ _ (T23.setTop (mkF m 162 #[.val (Value.int x0), .val (Value.int x1), .val (Value.int x2), .val (Value.int x3), .val (Value.int x4), .val (Value.int (2 : Int32)), .val (Value.ref ad17), .val (Value.long ((x1.toInt64) + (x2.toInt64))), .second, .unset, .unset] [(Value.double (FP.l2d (((0 : Int64) + (own_gk x1 x2 x3 x4 0)) + (own_gk x1 x2 x3 x4 1))))]))
    refine own_dstore X23 hx hby at_162 (l' := #[.val (Value.int x0), .val (Value.int x1), .val (Value.int x2), .val (Value.int x3), .val (Value.int x4), .val (Value.int (2 : Int32)), .val (Value.ref ad17), .val (Value.long ((x1.toInt64) + (x2.toInt64))), .second, .val (Value.double (FP.l2d (((0 : Int64) + (own_gk x1 x2 x3 x4 0)) + (own_gk x1 x2 x3 x4 1)))), .second]) rfl ?_
    show own_G p e below s _ _ _ (T23.setTop (mkF m 164 #[.val (Value.int x0), .val (Value.int x1), .val (Value.int x2), .val (Value.int x3), .val (Value.int x4), .val (Value.int (2 : Int32)), .val (Value.ref ad17), .val (Value.long ((x1.toInt64) + (x2.toInt64))), .second, .val (Value.double (FP.l2d (((0 : Int64) + (own_gk x1 x2 x3 x4 0)) + (own_gk x1 x2 x3 x4 1)))), .second] []))
    refine own_dload X23 hx hby at_164 rfl ?_
    show own_G p e below s _ _ _ (T23.setTop (mkF m 166 #[.val (Value.int x0), .val (Value.int x1), .val (Value.int x2), .val (Value.int x3), .val (Value.int x4), .val (Value.int (2 : Int32)), .val (Value.ref ad17), .val (Value.long ((x1.toInt64) + (x2.toInt64))), .second, .val (Value.double (FP.l2d (((0 : Int64) + (own_gk x1 x2 x3 x4 0)) + (own_gk x1 x2 x3 x4 1)))), .second] [(Value.double (FP.l2d (((0 : Int64) + (own_gk x1 x2 x3 x4 0)) + (own_gk x1 x2 x3 x4 1))))]))
    refine own_lload X23 hx hby at_166 rfl ?_
    show own_G p e below s _ _ _ (T23.setTop (mkF m 168 #[.val (Value.int x0), .val (Value.int x1), .val (Value.int x2), .val (Value.int x3), .val (Value.int x4), .val (Value.int (2 : Int32)), .val (Value.ref ad17), .val (Value.long ((x1.toInt64) + (x2.toInt64))), .second, .val (Value.double (FP.l2d (((0 : Int64) + (own_gk x1 x2 x3 x4 0)) + (own_gk x1 x2 x3 x4 1)))), .second] [(Value.long ((x1.toInt64) + (x2.toInt64))), (Value.double (FP.l2d (((0 : Int64) + (own_gk x1 x2 x3 x4 0)) + (own_gk x1 x2 x3 x4 1))))]))
    refine own_l2d X23 hx hby at_168 ?_
    show own_G p e below s _ _ _ (T23.setTop (mkF m 169 #[.val (Value.int x0), .val (Value.int x1), .val (Value.int x2), .val (Value.int x3), .val (Value.int x4), .val (Value.int (2 : Int32)), .val (Value.ref ad17), .val (Value.long ((x1.toInt64) + (x2.toInt64))), .second, .val (Value.double (FP.l2d (((0 : Int64) + (own_gk x1 x2 x3 x4 0)) + (own_gk x1 x2 x3 x4 1)))), .second] [(Value.double (FP.l2d ((x1.toInt64) + (x2.toInt64)))), (Value.double (FP.l2d (((0 : Int64) + (own_gk x1 x2 x3 x4 0)) + (own_gk x1 x2 x3 x4 1))))]))
    refine own_dcmp_ne X23 hx hby ((own_R.add (own_R.add own_R.z (own_gk_R x1 x2 x3 x4 0) (by decide)) (own_gk_R x1 x2 x3 x4 1) (by decide)).b53 (by decide)) ((own_R.add (own_R.i x1) (own_R.i x2) (by decide)).b53 (by decide)) at_169 at_170 (pc' := 177) (by decide) (by decide) (fun hb24 => by exfalso; exact hb24 (by show ((0 : Int64) + own_gk x1 x2 x3 x4 0 + own_gk x1 x2 x3 x4 1) = _; simp [own_gk])) (fun hb24 => ?_)
    show own_G p e below s _ _ _ (T23.setTop (mkF m 173 #[.val (Value.int x0), .val (Value.int x1), .val (Value.int x2), .val (Value.int x3), .val (Value.int x4), .val (Value.int (2 : Int32)), .val (Value.ref ad17), .val (Value.long ((x1.toInt64) + (x2.toInt64))), .second, .val (Value.double (FP.l2d (((0 : Int64) + (own_gk x1 x2 x3 x4 0)) + (own_gk x1 x2 x3 x4 1)))), .second] []))
    refine own_iconst X23 hx hby at_173 ?_
    show own_G p e below s _ _ _ (T23.setTop (mkF m 174 #[.val (Value.int x0), .val (Value.int x1), .val (Value.int x2), .val (Value.int x3), .val (Value.int x4), .val (Value.int (2 : Int32)), .val (Value.ref ad17), .val (Value.long ((x1.toInt64) + (x2.toInt64))), .second, .val (Value.double (FP.l2d (((0 : Int64) + (own_gk x1 x2 x3 x4 0)) + (own_gk x1 x2 x3 x4 1)))), .second] [(Value.int (1 : Int32))]))
    refine own_goto X23 hx hby at_174 (pc' := 178) (by decide) (by decide) ?_
    show own_G p e below s _ _ _ (T23.setTop (mkF m 178 #[.val (Value.int x0), .val (Value.int x1), .val (Value.int x2), .val (Value.int x3), .val (Value.int x4), .val (Value.int (2 : Int32)), .val (Value.ref ad17), .val (Value.long ((x1.toInt64) + (x2.toInt64))), .second, .val (Value.double (FP.l2d (((0 : Int64) + (own_gk x1 x2 x3 x4 0)) + (own_gk x1 x2 x3 x4 1)))), .second] [(Value.int (1 : Int32))]))
    refine own_retN X23 hx hby hlk (t := .boolean) Bd.returns (by simp) at_178 (by decide) (by decide) ?_
    exact ⟨rfl, N23⟩
  · rw [hk]
    show own_G p e below s _ _ _ (s₁.setTop (mkF m 6 #[.val (Value.int x0), .val (Value.int x1), .val (Value.int x2), .val (Value.int x3), .val (Value.int x4), .unset, .unset, .unset, .unset, .unset, .unset] [(Value.int (3 : Int32))]))
    refine own_istore X0 hx hby at_6 (l' := #[.val (Value.int x0), .val (Value.int x1), .val (Value.int x2), .val (Value.int x3), .val (Value.int x4), .val (Value.int (3 : Int32)), .unset, .unset, .unset, .unset, .unset]) rfl ?_
    show own_G p e below s _ _ _ (s₁.setTop (mkF m 8 #[.val (Value.int x0), .val (Value.int x1), .val (Value.int x2), .val (Value.int x3), .val (Value.int x4), .val (Value.int (3 : Int32)), .unset, .unset, .unset, .unset, .unset] []))
    refine own_iload X0 hx hby at_8 rfl ?_
    show own_G p e below s _ _ _ (s₁.setTop (mkF m 10 #[.val (Value.int x0), .val (Value.int x1), .val (Value.int x2), .val (Value.int x3), .val (Value.int x4), .val (Value.int (3 : Int32)), .unset, .unset, .unset, .unset, .unset] [(Value.int (3 : Int32))]))
    refine own_if_ne X0 hx hby at_10 (pc' := 24) (by decide) (by decide) (fun hb25 => ?_) (fun hb25 => by exfalso; revert hb25; decide)
    show own_G p e below s _ _ _ (s₁.setTop (mkF m 24 #[.val (Value.int x0), .val (Value.int x1), .val (Value.int x2), .val (Value.int x3), .val (Value.int x4), .val (Value.int (3 : Int32)), .unset, .unset, .unset, .unset, .unset] []))
    refine own_iload X0 hx hby at_24 rfl ?_
    show own_G p e below s _ _ _ (s₁.setTop (mkF m 26 #[.val (Value.int x0), .val (Value.int x1), .val (Value.int x2), .val (Value.int x3), .val (Value.int x4), .val (Value.int (3 : Int32)), .unset, .unset, .unset, .unset, .unset] [(Value.int (3 : Int32))]))
    refine own_iconst X0 hx hby at_26 ?_
    show own_G p e below s _ _ _ (s₁.setTop (mkF m 27 #[.val (Value.int x0), .val (Value.int x1), .val (Value.int x2), .val (Value.int x3), .val (Value.int x4), .val (Value.int (3 : Int32)), .unset, .unset, .unset, .unset, .unset] [(Value.int (1 : Int32)), (Value.int (3 : Int32))]))
    refine own_icmp_ne X0 hx hby at_27 (pc' := 47) (by decide) (by decide) (fun hb26 => ?_) (fun hb26 => by exfalso; revert hb26; decide)
    show own_G p e below s _ _ _ (s₁.setTop (mkF m 47 #[.val (Value.int x0), .val (Value.int x1), .val (Value.int x2), .val (Value.int x3), .val (Value.int x4), .val (Value.int (3 : Int32)), .unset, .unset, .unset, .unset, .unset] []))
    refine own_iload X0 hx hby at_47 rfl ?_
    show own_G p e below s _ _ _ (s₁.setTop (mkF m 49 #[.val (Value.int x0), .val (Value.int x1), .val (Value.int x2), .val (Value.int x3), .val (Value.int x4), .val (Value.int (3 : Int32)), .unset, .unset, .unset, .unset, .unset] [(Value.int (3 : Int32))]))
    refine own_iconst X0 hx hby at_49 ?_
    show own_G p e below s _ _ _ (s₁.setTop (mkF m 50 #[.val (Value.int x0), .val (Value.int x1), .val (Value.int x2), .val (Value.int x3), .val (Value.int x4), .val (Value.int (3 : Int32)), .unset, .unset, .unset, .unset, .unset] [(Value.int (2 : Int32)), (Value.int (3 : Int32))]))
    refine own_icmp_ne X0 hx hby at_50 (pc' := 78) (by decide) (by decide) (fun hb27 => ?_) (fun hb27 => by exfalso; revert hb27; decide)
    show own_G p e below s _ _ _ (s₁.setTop (mkF m 78 #[.val (Value.int x0), .val (Value.int x1), .val (Value.int x2), .val (Value.int x3), .val (Value.int x4), .val (Value.int (3 : Int32)), .unset, .unset, .unset, .unset, .unset] []))
    refine own_iload X0 hx hby at_78 rfl ?_
    show own_G p e below s _ _ _ (s₁.setTop (mkF m 80 #[.val (Value.int x0), .val (Value.int x1), .val (Value.int x2), .val (Value.int x3), .val (Value.int x4), .val (Value.int (3 : Int32)), .unset, .unset, .unset, .unset, .unset] [(Value.int (3 : Int32))]))
    refine own_iconst X0 hx hby at_80 ?_
    show own_G p e below s _ _ _ (s₁.setTop (mkF m 81 #[.val (Value.int x0), .val (Value.int x1), .val (Value.int x2), .val (Value.int x3), .val (Value.int x4), .val (Value.int (3 : Int32)), .unset, .unset, .unset, .unset, .unset] [(Value.int (3 : Int32)), (Value.int (3 : Int32))]))
    refine own_icmp_ne X0 hx hby at_81 (pc' := 117) (by decide) (by decide) (fun hb28 => by exfalso; revert hb28; decide) (fun hb28 => ?_)
    show own_G p e below s _ _ _ (s₁.setTop (mkF m 84 #[.val (Value.int x0), .val (Value.int x1), .val (Value.int x2), .val (Value.int x3), .val (Value.int x4), .val (Value.int (3 : Int32)), .unset, .unset, .unset, .unset, .unset] []))
    refine own_iconst X0 hx hby at_84 ?_
    show own_G p e below s _ _ _ (s₁.setTop (mkF m 85 #[.val (Value.int x0), .val (Value.int x1), .val (Value.int x2), .val (Value.int x3), .val (Value.int x4), .val (Value.int (3 : Int32)), .unset, .unset, .unset, .unset, .unset] [(Value.int (3 : Int32))]))
    obtain ⟨T29, h29, k29, X29, e29, E29, A29, st29⟩ := newP X0 hx hZ (aty := .double) (own_w0 hw) e0 (g := (mkF m 85 #[.val (Value.int x0), .val (Value.int x1), .val (Value.int x2), .val (Value.int x3), .val (Value.int x4), .val (Value.int (3 : Int32)), .unset, .unset, .unset, .unset, .unset] [(Value.int (3 : Int32))])) rfl (hb hby at_85) rfl (by decide) (cap := 3) (by decide) (by decide) (by decide) (by decide)
    obtain ⟨ad29, g29⟩ : ∃ z, z = h0.size := ⟨_, rfl⟩
    rw [← g29] at A29 st29
    have O30 := Old.ext O0 E29
    have g29n : n0 ≤ ad29 := by rw [g29]; exact O0.1 ▸ O0.2.1
    have A29v : own_Ar Z h29 ad29 .double 3 (fun _ => (.double (0 : UInt64))) := own_Ar.new A29 (by decide)
    refine own_st st29 ?_
    show own_G p e below s _ _ _ (T29.setTop (mkF m 87 #[.val (Value.int x0), .val (Value.int x1), .val (Value.int x2), .val (Value.int x3), .val (Value.int x4), .val (Value.int (3 : Int32)), .unset, .unset, .unset, .unset, .unset] [(Value.ref ad29)]))
    refine own_dup X29 hx hby at_87 rfl ?_
    show own_G p e below s _ _ _ (T29.setTop (mkF m 88 #[.val (Value.int x0), .val (Value.int x1), .val (Value.int x2), .val (Value.int x3), .val (Value.int x4), .val (Value.int (3 : Int32)), .unset, .unset, .unset, .unset, .unset] [(Value.ref ad29), (Value.ref ad29)]))
    refine own_iconst X29 hx hby at_88 ?_
    show own_G p e below s _ _ _ (T29.setTop (mkF m 89 #[.val (Value.int x0), .val (Value.int x1), .val (Value.int x2), .val (Value.int x3), .val (Value.int x4), .val (Value.int (3 : Int32)), .unset, .unset, .unset, .unset, .unset] [(Value.int (0 : Int32)), (Value.ref ad29), (Value.ref ad29)]))
    refine own_iloadN X29 hx hby at_89 rfl ?_
    show own_G p e below s _ _ _ (T29.setTop (mkF m 90 #[.val (Value.int x0), .val (Value.int x1), .val (Value.int x2), .val (Value.int x3), .val (Value.int x4), .val (Value.int (3 : Int32)), .unset, .unset, .unset, .unset, .unset] [(Value.int x1), (Value.int (0 : Int32)), (Value.ref ad29), (Value.ref ad29)]))
    refine own_i2d X29 hx hby at_90 ?_
    show own_G p e below s _ _ _ (T29.setTop (mkF m 91 #[.val (Value.int x0), .val (Value.int x1), .val (Value.int x2), .val (Value.int x3), .val (Value.int x4), .val (Value.int (3 : Int32)), .unset, .unset, .unset, .unset, .unset] [(Value.double (FP.l2d (x1.toInt64))), (Value.int (0 : Int32)), (Value.ref ad29), (Value.ref ad29)]))
    obtain ⟨T31, h31, X31, e31, W31, A31, st31⟩ := own_dastore X29 hx hby hZ e29 A29v (j := (0 : Int32)) (i := 0) (by decide) (by decide) (x := (FP.l2d (x1.toInt64))) at_91 (Ls := #[.val (Value.int x0), .val (Value.int x1), .val (Value.int x2), .val (Value.int x3), .val (Value.int x4), .val (Value.int (3 : Int32)), .unset, .unset, .unset, .unset, .unset]) (st := [(Value.ref ad29)])
    have O32 := Old.wr O30 W31 g29n
    have N31 := Fr.snoc X31 N0 g29n
    refine own_st st31 ?_
    show own_G p e below s _ _ _ (T31.setTop (mkF m 92 #[.val (Value.int x0), .val (Value.int x1), .val (Value.int x2), .val (Value.int x3), .val (Value.int x4), .val (Value.int (3 : Int32)), .unset, .unset, .unset, .unset, .unset] [(Value.ref ad29)]))
    refine own_dup X31 hx hby at_92 rfl ?_
    show own_G p e below s _ _ _ (T31.setTop (mkF m 93 #[.val (Value.int x0), .val (Value.int x1), .val (Value.int x2), .val (Value.int x3), .val (Value.int x4), .val (Value.int (3 : Int32)), .unset, .unset, .unset, .unset, .unset] [(Value.ref ad29), (Value.ref ad29)]))
    refine own_iconst X31 hx hby at_93 ?_
    show own_G p e below s _ _ _ (T31.setTop (mkF m 94 #[.val (Value.int x0), .val (Value.int x1), .val (Value.int x2), .val (Value.int x3), .val (Value.int x4), .val (Value.int (3 : Int32)), .unset, .unset, .unset, .unset, .unset] [(Value.int (1 : Int32)), (Value.ref ad29), (Value.ref ad29)]))
    refine own_iloadN X31 hx hby at_94 rfl ?_
    show own_G p e below s _ _ _ (T31.setTop (mkF m 95 #[.val (Value.int x0), .val (Value.int x1), .val (Value.int x2), .val (Value.int x3), .val (Value.int x4), .val (Value.int (3 : Int32)), .unset, .unset, .unset, .unset, .unset] [(Value.int x2), (Value.int (1 : Int32)), (Value.ref ad29), (Value.ref ad29)]))
    refine own_i2d X31 hx hby at_95 ?_
    show own_G p e below s _ _ _ (T31.setTop (mkF m 96 #[.val (Value.int x0), .val (Value.int x1), .val (Value.int x2), .val (Value.int x3), .val (Value.int x4), .val (Value.int (3 : Int32)), .unset, .unset, .unset, .unset, .unset] [(Value.double (FP.l2d (x2.toInt64))), (Value.int (1 : Int32)), (Value.ref ad29), (Value.ref ad29)]))
    obtain ⟨T33, h33, X33, e33, W33, A33, st33⟩ := own_dastore X31 hx hby hZ e31 A31 (j := (1 : Int32)) (i := 1) (by decide) (by decide) (x := (FP.l2d (x2.toInt64))) at_96 (Ls := #[.val (Value.int x0), .val (Value.int x1), .val (Value.int x2), .val (Value.int x3), .val (Value.int x4), .val (Value.int (3 : Int32)), .unset, .unset, .unset, .unset, .unset]) (st := [(Value.ref ad29)])
    have O34 := Old.wr O32 W33 g29n
    have N33 := Fr.snoc X33 N31 g29n
    refine own_st st33 ?_
    show own_G p e below s _ _ _ (T33.setTop (mkF m 97 #[.val (Value.int x0), .val (Value.int x1), .val (Value.int x2), .val (Value.int x3), .val (Value.int x4), .val (Value.int (3 : Int32)), .unset, .unset, .unset, .unset, .unset] [(Value.ref ad29)]))
    refine own_dup X33 hx hby at_97 rfl ?_
    show own_G p e below s _ _ _ (T33.setTop (mkF m 98 #[.val (Value.int x0), .val (Value.int x1), .val (Value.int x2), .val (Value.int x3), .val (Value.int x4), .val (Value.int (3 : Int32)), .unset, .unset, .unset, .unset, .unset] [(Value.ref ad29), (Value.ref ad29)]))
    refine own_iconst X33 hx hby at_98 ?_
    show own_G p e below s _ _ _ (T33.setTop (mkF m 99 #[.val (Value.int x0), .val (Value.int x1), .val (Value.int x2), .val (Value.int x3), .val (Value.int x4), .val (Value.int (3 : Int32)), .unset, .unset, .unset, .unset, .unset] [(Value.int (2 : Int32)), (Value.ref ad29), (Value.ref ad29)]))
    refine own_iloadN X33 hx hby at_99 rfl ?_
    show own_G p e below s _ _ _ (T33.setTop (mkF m 100 #[.val (Value.int x0), .val (Value.int x1), .val (Value.int x2), .val (Value.int x3), .val (Value.int x4), .val (Value.int (3 : Int32)), .unset, .unset, .unset, .unset, .unset] [(Value.int x3), (Value.int (2 : Int32)), (Value.ref ad29), (Value.ref ad29)]))
    refine own_i2d X33 hx hby at_100 ?_
    show own_G p e below s _ _ _ (T33.setTop (mkF m 101 #[.val (Value.int x0), .val (Value.int x1), .val (Value.int x2), .val (Value.int x3), .val (Value.int x4), .val (Value.int (3 : Int32)), .unset, .unset, .unset, .unset, .unset] [(Value.double (FP.l2d (x3.toInt64))), (Value.int (2 : Int32)), (Value.ref ad29), (Value.ref ad29)]))
    obtain ⟨T35, h35, X35, e35, W35, A35, st35⟩ := own_dastore X33 hx hby hZ e33 A33 (j := (2 : Int32)) (i := 2) (by decide) (by decide) (x := (FP.l2d (x3.toInt64))) at_101 (Ls := #[.val (Value.int x0), .val (Value.int x1), .val (Value.int x2), .val (Value.int x3), .val (Value.int x4), .val (Value.int (3 : Int32)), .unset, .unset, .unset, .unset, .unset]) (st := [(Value.ref ad29)])
    have O36 := Old.wr O34 W35 g29n
    have N35 := Fr.snoc X35 N33 g29n
    refine own_st st35 ?_
    show own_G p e below s _ _ _ (T35.setTop (mkF m 102 #[.val (Value.int x0), .val (Value.int x1), .val (Value.int x2), .val (Value.int x3), .val (Value.int x4), .val (Value.int (3 : Int32)), .unset, .unset, .unset, .unset, .unset] [(Value.ref ad29)]))
    refine own_astore X35 hx hby at_102 rfl (l' := #[.val (Value.int x0), .val (Value.int x1), .val (Value.int x2), .val (Value.int x3), .val (Value.int x4), .val (Value.int (3 : Int32)), .val (Value.ref ad29), .unset, .unset, .unset, .unset]) rfl ?_
    show own_G p e below s _ _ _ (T35.setTop (mkF m 104 #[.val (Value.int x0), .val (Value.int x1), .val (Value.int x2), .val (Value.int x3), .val (Value.int x4), .val (Value.int (3 : Int32)), .val (Value.ref ad29), .unset, .unset, .unset, .unset] []))
    refine own_iloadN X35 hx hby at_104 rfl ?_
    show own_G p e below s _ _ _ (T35.setTop (mkF m 105 #[.val (Value.int x0), .val (Value.int x1), .val (Value.int x2), .val (Value.int x3), .val (Value.int x4), .val (Value.int (3 : Int32)), .val (Value.ref ad29), .unset, .unset, .unset, .unset] [(Value.int x1)]))
    refine own_i2l X35 hx hby at_105 ?_
    show own_G p e below s _ _ _ (T35.setTop (mkF m 106 #[.val (Value.int x0), .val (Value.int x1), .val (Value.int x2), .val (Value.int x3), .val (Value.int x4), .val (Value.int (3 : Int32)), .val (Value.ref ad29), .unset, .unset, .unset, .unset] [(Value.long (x1.toInt64))]))
    refine own_iloadN X35 hx hby at_106 rfl ?_
    show own_G p e below s _ _ _ (T35.setTop (mkF m 107 #[.val (Value.int x0), .val (Value.int x1), .val (Value.int x2), .val (Value.int x3), .val (Value.int x4), .val (Value.int (3 : Int32)), .val (Value.ref ad29), .unset, .unset, .unset, .unset] [(Value.int x2), (Value.long (x1.toInt64))]))
    refine own_i2l X35 hx hby at_107 ?_
    show own_G p e below s _ _ _ (T35.setTop (mkF m 108 #[.val (Value.int x0), .val (Value.int x1), .val (Value.int x2), .val (Value.int x3), .val (Value.int x4), .val (Value.int (3 : Int32)), .val (Value.ref ad29), .unset, .unset, .unset, .unset] [(Value.long (x2.toInt64)), (Value.long (x1.toInt64))]))
    refine own_ladd X35 hx hby at_108 ?_
    show own_G p e below s _ _ _ (T35.setTop (mkF m 109 #[.val (Value.int x0), .val (Value.int x1), .val (Value.int x2), .val (Value.int x3), .val (Value.int x4), .val (Value.int (3 : Int32)), .val (Value.ref ad29), .unset, .unset, .unset, .unset] [(Value.long ((x1.toInt64) + (x2.toInt64)))]))
    refine own_iloadN X35 hx hby at_109 rfl ?_
    show own_G p e below s _ _ _ (T35.setTop (mkF m 110 #[.val (Value.int x0), .val (Value.int x1), .val (Value.int x2), .val (Value.int x3), .val (Value.int x4), .val (Value.int (3 : Int32)), .val (Value.ref ad29), .unset, .unset, .unset, .unset] [(Value.int x3), (Value.long ((x1.toInt64) + (x2.toInt64)))]))
    refine own_i2l X35 hx hby at_110 ?_
    show own_G p e below s _ _ _ (T35.setTop (mkF m 111 #[.val (Value.int x0), .val (Value.int x1), .val (Value.int x2), .val (Value.int x3), .val (Value.int x4), .val (Value.int (3 : Int32)), .val (Value.ref ad29), .unset, .unset, .unset, .unset] [(Value.long (x3.toInt64)), (Value.long ((x1.toInt64) + (x2.toInt64)))]))
    refine own_ladd X35 hx hby at_111 ?_
    show own_G p e below s _ _ _ (T35.setTop (mkF m 112 #[.val (Value.int x0), .val (Value.int x1), .val (Value.int x2), .val (Value.int x3), .val (Value.int x4), .val (Value.int (3 : Int32)), .val (Value.ref ad29), .unset, .unset, .unset, .unset] [(Value.long (((x1.toInt64) + (x2.toInt64)) + (x3.toInt64)))]))
    refine own_lstore X35 hx hby at_112 (l' := #[.val (Value.int x0), .val (Value.int x1), .val (Value.int x2), .val (Value.int x3), .val (Value.int x4), .val (Value.int (3 : Int32)), .val (Value.ref ad29), .val (Value.long (((x1.toInt64) + (x2.toInt64)) + (x3.toInt64))), .second, .unset, .unset]) rfl ?_
    show own_G p e below s _ _ _ (T35.setTop (mkF m 114 #[.val (Value.int x0), .val (Value.int x1), .val (Value.int x2), .val (Value.int x3), .val (Value.int x4), .val (Value.int (3 : Int32)), .val (Value.ref ad29), .val (Value.long (((x1.toInt64) + (x2.toInt64)) + (x3.toInt64))), .second, .unset, .unset] []))
    refine own_goto X35 hx hby at_114 (pc' := 157) (by decide) (by decide) ?_
    show own_G p e below s _ _ _ (T35.setTop (mkF m 157 #[.val (Value.int x0), .val (Value.int x1), .val (Value.int x2), .val (Value.int x3), .val (Value.int x4), .val (Value.int (3 : Int32)), .val (Value.ref ad29), .val (Value.long (((x1.toInt64) + (x2.toInt64)) + (x3.toInt64))), .second, .unset, .unset] []))
    have Ab : own_Ar Z h35 ad29 .double 3 (fun j => .double (FP.l2d (own_gk x1 x2 x3 x4 j))) := own_Ar.fn A35 (by intro j hj; have hj2 : j = 0 ∨ j = 1 ∨ j = 2 := (by omega); rcases hj2 with rfl | rfl | rfl <;> rfl)
    refine own_aload X35 hx hby at_157 rfl rfl ?_
    show own_G p e below s _ _ _ (T35.setTop (mkF m 159 #[.val (Value.int x0), .val (Value.int x1), .val (Value.int x2), .val (Value.int x3), .val (Value.int x4), .val (Value.int (3 : Int32)), .val (Value.ref ad29), .val (Value.long (((x1.toInt64) + (x2.toInt64)) + (x3.toInt64))), .second, .unset, .unset] [(Value.ref ad29)]))
    obtain ⟨_, _, ⟨T37, L37, k37, n37⟩, -, X37, ⟨Lc37, hQ37, l37, y37, z37⟩, st37⟩ := Jvm.LawKit.callS X35 hx (y := (⟨"com/example/wattfloor/wattfloor/market/Vectors", "sum", "([D)D"⟩ : MethodName)) hown (mvT hZ (own_w1 hw)) (mvT hZ (own_w2 hw)) (mvT hZ (own_w3 hw)) (mvT hZ (own_w4 hw)) (by decide) (backOf (W := 0) (own_rmS3 l Z a0 hw [] ad29 (own_gk x1 x2 x3 x4) h35 n0 O36  Ab (own_gk_R x1 x2 x3 x4)) hZ (own_w4 hw) (own_w3 hw) (by decide) (by decide)) (g := (mkF m 159 #[.val (Value.int x0), .val (Value.int x1), .val (Value.int x2), .val (Value.int x3), .val (Value.int x4), .val (Value.int (3 : Int32)), .val (Value.ref ad29), .val (Value.long (((x1.toInt64) + (x2.toInt64)) + (x3.toInt64))), .second, .unset, .unset] [(Value.ref ad29)])) rfl (by rw [hml]; rfl) (argsL := [(Value.ref ad29)]) (rest := []) (lenOf own_pd0 rfl) rfl (by show 2 * 0 + _ ≤ _; exact Nat.le_of_eq rfl) (hb hby at_159) (fun _ _ => ⟨rfl, e35, (by decide : (1 : Nat) + 0 ≤ _), (by decide : (3 : Nat) + 0 ≤ _)⟩)
    dsimp only [Pt.U, Pt.locs, Pt.cells, Pt.slots] at X37 l37 y37 z37 st37 hQ37
    subst l37 y37 z37
    obtain ⟨rfl, e37, Nq37⟩ := hQ37
    have N37 := Fr.app N35 Nq37
    refine own_st st37 ?_
    show own_G p e below s _ _ _ (T37.setTop (mkF m 162 #[.val (Value.int x0), .val (Value.int x1), .val (Value.int x2), .val (Value.int x3), .val (Value.int x4), .val (Value.int (3 : Int32)), .val (Value.ref ad29), .val (Value.long (((x1.toInt64) + (x2.toInt64)) + (x3.toInt64))), .second, .unset, .unset] [(Value.double (FP.l2d ((((0 : Int64) + (own_gk x1 x2 x3 x4 0)) + (own_gk x1 x2 x3 x4 1)) + (own_gk x1 x2 x3 x4 2))))]))
    refine own_dstore X37 hx hby at_162 (l' := #[.val (Value.int x0), .val (Value.int x1), .val (Value.int x2), .val (Value.int x3), .val (Value.int x4), .val (Value.int (3 : Int32)), .val (Value.ref ad29), .val (Value.long (((x1.toInt64) + (x2.toInt64)) + (x3.toInt64))), .second, .val (Value.double (FP.l2d ((((0 : Int64) + (own_gk x1 x2 x3 x4 0)) + (own_gk x1 x2 x3 x4 1)) + (own_gk x1 x2 x3 x4 2)))), .second]) rfl ?_
    show own_G p e below s _ _ _ (T37.setTop (mkF m 164 #[.val (Value.int x0), .val (Value.int x1), .val (Value.int x2), .val (Value.int x3), .val (Value.int x4), .val (Value.int (3 : Int32)), .val (Value.ref ad29), .val (Value.long (((x1.toInt64) + (x2.toInt64)) + (x3.toInt64))), .second, .val (Value.double (FP.l2d ((((0 : Int64) + (own_gk x1 x2 x3 x4 0)) + (own_gk x1 x2 x3 x4 1)) + (own_gk x1 x2 x3 x4 2)))), .second] []))
    refine own_dload X37 hx hby at_164 rfl ?_
    show own_G p e below s _ _ _ (T37.setTop (mkF m 166 #[.val (Value.int x0), .val (Value.int x1), .val (Value.int x2), .val (Value.int x3), .val (Value.int x4), .val (Value.int (3 : Int32)), .val (Value.ref ad29), .val (Value.long (((x1.toInt64) + (x2.toInt64)) + (x3.toInt64))), .second, .val (Value.double (FP.l2d ((((0 : Int64) + (own_gk x1 x2 x3 x4 0)) + (own_gk x1 x2 x3 x4 1)) + (own_gk x1 x2 x3 x4 2)))), .second] [(Value.double (FP.l2d ((((0 : Int64) + (own_gk x1 x2 x3 x4 0)) + (own_gk x1 x2 x3 x4 1)) + (own_gk x1 x2 x3 x4 2))))]))
    refine own_lload X37 hx hby at_166 rfl ?_
    show own_G p e below s _ _ _ (T37.setTop (mkF m 168 #[.val (Value.int x0), .val (Value.int x1), .val (Value.int x2), .val (Value.int x3), .val (Value.int x4), .val (Value.int (3 : Int32)), .val (Value.ref ad29), .val (Value.long (((x1.toInt64) + (x2.toInt64)) + (x3.toInt64))), .second, .val (Value.double (FP.l2d ((((0 : Int64) + (own_gk x1 x2 x3 x4 0)) + (own_gk x1 x2 x3 x4 1)) + (own_gk x1 x2 x3 x4 2)))), .second] [(Value.long (((x1.toInt64) + (x2.toInt64)) + (x3.toInt64))), (Value.double (FP.l2d ((((0 : Int64) + (own_gk x1 x2 x3 x4 0)) + (own_gk x1 x2 x3 x4 1)) + (own_gk x1 x2 x3 x4 2))))]))
    refine own_l2d X37 hx hby at_168 ?_
    show own_G p e below s _ _ _ (T37.setTop (mkF m 169 #[.val (Value.int x0), .val (Value.int x1), .val (Value.int x2), .val (Value.int x3), .val (Value.int x4), .val (Value.int (3 : Int32)), .val (Value.ref ad29), .val (Value.long (((x1.toInt64) + (x2.toInt64)) + (x3.toInt64))), .second, .val (Value.double (FP.l2d ((((0 : Int64) + (own_gk x1 x2 x3 x4 0)) + (own_gk x1 x2 x3 x4 1)) + (own_gk x1 x2 x3 x4 2)))), .second] [(Value.double (FP.l2d (((x1.toInt64) + (x2.toInt64)) + (x3.toInt64)))), (Value.double (FP.l2d ((((0 : Int64) + (own_gk x1 x2 x3 x4 0)) + (own_gk x1 x2 x3 x4 1)) + (own_gk x1 x2 x3 x4 2))))]))
    refine own_dcmp_ne X37 hx hby ((own_R.add (own_R.add (own_R.add own_R.z (own_gk_R x1 x2 x3 x4 0) (by decide)) (own_gk_R x1 x2 x3 x4 1) (by decide)) (own_gk_R x1 x2 x3 x4 2) (by decide)).b53 (by decide)) ((own_R.add (own_R.add (own_R.i x1) (own_R.i x2) (by decide)) (own_R.i x3) (by decide)).b53 (by decide)) at_169 at_170 (pc' := 177) (by decide) (by decide) (fun hb38 => by exfalso; exact hb38 (by show ((0 : Int64) + own_gk x1 x2 x3 x4 0 + own_gk x1 x2 x3 x4 1 + own_gk x1 x2 x3 x4 2) = _; simp [own_gk])) (fun hb38 => ?_)
    show own_G p e below s _ _ _ (T37.setTop (mkF m 173 #[.val (Value.int x0), .val (Value.int x1), .val (Value.int x2), .val (Value.int x3), .val (Value.int x4), .val (Value.int (3 : Int32)), .val (Value.ref ad29), .val (Value.long (((x1.toInt64) + (x2.toInt64)) + (x3.toInt64))), .second, .val (Value.double (FP.l2d ((((0 : Int64) + (own_gk x1 x2 x3 x4 0)) + (own_gk x1 x2 x3 x4 1)) + (own_gk x1 x2 x3 x4 2)))), .second] []))
    refine own_iconst X37 hx hby at_173 ?_
    show own_G p e below s _ _ _ (T37.setTop (mkF m 174 #[.val (Value.int x0), .val (Value.int x1), .val (Value.int x2), .val (Value.int x3), .val (Value.int x4), .val (Value.int (3 : Int32)), .val (Value.ref ad29), .val (Value.long (((x1.toInt64) + (x2.toInt64)) + (x3.toInt64))), .second, .val (Value.double (FP.l2d ((((0 : Int64) + (own_gk x1 x2 x3 x4 0)) + (own_gk x1 x2 x3 x4 1)) + (own_gk x1 x2 x3 x4 2)))), .second] [(Value.int (1 : Int32))]))
    refine own_goto X37 hx hby at_174 (pc' := 178) (by decide) (by decide) ?_
    show own_G p e below s _ _ _ (T37.setTop (mkF m 178 #[.val (Value.int x0), .val (Value.int x1), .val (Value.int x2), .val (Value.int x3), .val (Value.int x4), .val (Value.int (3 : Int32)), .val (Value.ref ad29), .val (Value.long (((x1.toInt64) + (x2.toInt64)) + (x3.toInt64))), .second, .val (Value.double (FP.l2d ((((0 : Int64) + (own_gk x1 x2 x3 x4 0)) + (own_gk x1 x2 x3 x4 1)) + (own_gk x1 x2 x3 x4 2)))), .second] [(Value.int (1 : Int32))]))
    refine own_retN X37 hx hby hlk (t := .boolean) Bd.returns (by simp) at_178 (by decide) (by decide) ?_
    exact ⟨rfl, N37⟩
  · rw [hk]
    show own_G p e below s _ _ _ (s₁.setTop (mkF m 6 #[.val (Value.int x0), .val (Value.int x1), .val (Value.int x2), .val (Value.int x3), .val (Value.int x4), .unset, .unset, .unset, .unset, .unset, .unset] [(Value.int (4 : Int32))]))
    refine own_istore X0 hx hby at_6 (l' := #[.val (Value.int x0), .val (Value.int x1), .val (Value.int x2), .val (Value.int x3), .val (Value.int x4), .val (Value.int (4 : Int32)), .unset, .unset, .unset, .unset, .unset]) rfl ?_
    show own_G p e below s _ _ _ (s₁.setTop (mkF m 8 #[.val (Value.int x0), .val (Value.int x1), .val (Value.int x2), .val (Value.int x3), .val (Value.int x4), .val (Value.int (4 : Int32)), .unset, .unset, .unset, .unset, .unset] []))
    refine own_iload X0 hx hby at_8 rfl ?_
    show own_G p e below s _ _ _ (s₁.setTop (mkF m 10 #[.val (Value.int x0), .val (Value.int x1), .val (Value.int x2), .val (Value.int x3), .val (Value.int x4), .val (Value.int (4 : Int32)), .unset, .unset, .unset, .unset, .unset] [(Value.int (4 : Int32))]))
    refine own_if_ne X0 hx hby at_10 (pc' := 24) (by decide) (by decide) (fun hb39 => ?_) (fun hb39 => by exfalso; revert hb39; decide)
    show own_G p e below s _ _ _ (s₁.setTop (mkF m 24 #[.val (Value.int x0), .val (Value.int x1), .val (Value.int x2), .val (Value.int x3), .val (Value.int x4), .val (Value.int (4 : Int32)), .unset, .unset, .unset, .unset, .unset] []))
    refine own_iload X0 hx hby at_24 rfl ?_
    show own_G p e below s _ _ _ (s₁.setTop (mkF m 26 #[.val (Value.int x0), .val (Value.int x1), .val (Value.int x2), .val (Value.int x3), .val (Value.int x4), .val (Value.int (4 : Int32)), .unset, .unset, .unset, .unset, .unset] [(Value.int (4 : Int32))]))
    refine own_iconst X0 hx hby at_26 ?_
    show own_G p e below s _ _ _ (s₁.setTop (mkF m 27 #[.val (Value.int x0), .val (Value.int x1), .val (Value.int x2), .val (Value.int x3), .val (Value.int x4), .val (Value.int (4 : Int32)), .unset, .unset, .unset, .unset, .unset] [(Value.int (1 : Int32)), (Value.int (4 : Int32))]))
    refine own_icmp_ne X0 hx hby at_27 (pc' := 47) (by decide) (by decide) (fun hb40 => ?_) (fun hb40 => by exfalso; revert hb40; decide)
    show own_G p e below s _ _ _ (s₁.setTop (mkF m 47 #[.val (Value.int x0), .val (Value.int x1), .val (Value.int x2), .val (Value.int x3), .val (Value.int x4), .val (Value.int (4 : Int32)), .unset, .unset, .unset, .unset, .unset] []))
    refine own_iload X0 hx hby at_47 rfl ?_
    show own_G p e below s _ _ _ (s₁.setTop (mkF m 49 #[.val (Value.int x0), .val (Value.int x1), .val (Value.int x2), .val (Value.int x3), .val (Value.int x4), .val (Value.int (4 : Int32)), .unset, .unset, .unset, .unset, .unset] [(Value.int (4 : Int32))]))
    refine own_iconst X0 hx hby at_49 ?_
    show own_G p e below s _ _ _ (s₁.setTop (mkF m 50 #[.val (Value.int x0), .val (Value.int x1), .val (Value.int x2), .val (Value.int x3), .val (Value.int x4), .val (Value.int (4 : Int32)), .unset, .unset, .unset, .unset, .unset] [(Value.int (2 : Int32)), (Value.int (4 : Int32))]))
    refine own_icmp_ne X0 hx hby at_50 (pc' := 78) (by decide) (by decide) (fun hb41 => ?_) (fun hb41 => by exfalso; revert hb41; decide)
    show own_G p e below s _ _ _ (s₁.setTop (mkF m 78 #[.val (Value.int x0), .val (Value.int x1), .val (Value.int x2), .val (Value.int x3), .val (Value.int x4), .val (Value.int (4 : Int32)), .unset, .unset, .unset, .unset, .unset] []))
    refine own_iload X0 hx hby at_78 rfl ?_
    show own_G p e below s _ _ _ (s₁.setTop (mkF m 80 #[.val (Value.int x0), .val (Value.int x1), .val (Value.int x2), .val (Value.int x3), .val (Value.int x4), .val (Value.int (4 : Int32)), .unset, .unset, .unset, .unset, .unset] [(Value.int (4 : Int32))]))
    refine own_iconst X0 hx hby at_80 ?_
    show own_G p e below s _ _ _ (s₁.setTop (mkF m 81 #[.val (Value.int x0), .val (Value.int x1), .val (Value.int x2), .val (Value.int x3), .val (Value.int x4), .val (Value.int (4 : Int32)), .unset, .unset, .unset, .unset, .unset] [(Value.int (3 : Int32)), (Value.int (4 : Int32))]))
    refine own_icmp_ne X0 hx hby at_81 (pc' := 117) (by decide) (by decide) (fun hb42 => ?_) (fun hb42 => by exfalso; revert hb42; decide)
    show own_G p e below s _ _ _ (s₁.setTop (mkF m 117 #[.val (Value.int x0), .val (Value.int x1), .val (Value.int x2), .val (Value.int x3), .val (Value.int x4), .val (Value.int (4 : Int32)), .unset, .unset, .unset, .unset, .unset] []))
    refine own_iconst X0 hx hby at_117 ?_
    show own_G p e below s _ _ _ (s₁.setTop (mkF m 118 #[.val (Value.int x0), .val (Value.int x1), .val (Value.int x2), .val (Value.int x3), .val (Value.int x4), .val (Value.int (4 : Int32)), .unset, .unset, .unset, .unset, .unset] [(Value.int (4 : Int32))]))
    obtain ⟨T43, h43, k43, X43, e43, E43, A43, st43⟩ := newP X0 hx hZ (aty := .double) (own_w0 hw) e0 (g := (mkF m 118 #[.val (Value.int x0), .val (Value.int x1), .val (Value.int x2), .val (Value.int x3), .val (Value.int x4), .val (Value.int (4 : Int32)), .unset, .unset, .unset, .unset, .unset] [(Value.int (4 : Int32))])) rfl (hb hby at_118) rfl (by decide) (cap := 4) (by decide) (by decide) (by decide) (by decide)
    obtain ⟨ad43, g43⟩ : ∃ z, z = h0.size := ⟨_, rfl⟩
    rw [← g43] at A43 st43
    have O44 := Old.ext O0 E43
    have g43n : n0 ≤ ad43 := by rw [g43]; exact O0.1 ▸ O0.2.1
    have A43v : own_Ar Z h43 ad43 .double 4 (fun _ => (.double (0 : UInt64))) := own_Ar.new A43 (by decide)
    refine own_st st43 ?_
    show own_G p e below s _ _ _ (T43.setTop (mkF m 120 #[.val (Value.int x0), .val (Value.int x1), .val (Value.int x2), .val (Value.int x3), .val (Value.int x4), .val (Value.int (4 : Int32)), .unset, .unset, .unset, .unset, .unset] [(Value.ref ad43)]))
    refine own_dup X43 hx hby at_120 rfl ?_
    show own_G p e below s _ _ _ (T43.setTop (mkF m 121 #[.val (Value.int x0), .val (Value.int x1), .val (Value.int x2), .val (Value.int x3), .val (Value.int x4), .val (Value.int (4 : Int32)), .unset, .unset, .unset, .unset, .unset] [(Value.ref ad43), (Value.ref ad43)]))
    refine own_iconst X43 hx hby at_121 ?_
    show own_G p e below s _ _ _ (T43.setTop (mkF m 122 #[.val (Value.int x0), .val (Value.int x1), .val (Value.int x2), .val (Value.int x3), .val (Value.int x4), .val (Value.int (4 : Int32)), .unset, .unset, .unset, .unset, .unset] [(Value.int (0 : Int32)), (Value.ref ad43), (Value.ref ad43)]))
    refine own_iloadN X43 hx hby at_122 rfl ?_
    show own_G p e below s _ _ _ (T43.setTop (mkF m 123 #[.val (Value.int x0), .val (Value.int x1), .val (Value.int x2), .val (Value.int x3), .val (Value.int x4), .val (Value.int (4 : Int32)), .unset, .unset, .unset, .unset, .unset] [(Value.int x1), (Value.int (0 : Int32)), (Value.ref ad43), (Value.ref ad43)]))
    refine own_i2d X43 hx hby at_123 ?_
    show own_G p e below s _ _ _ (T43.setTop (mkF m 124 #[.val (Value.int x0), .val (Value.int x1), .val (Value.int x2), .val (Value.int x3), .val (Value.int x4), .val (Value.int (4 : Int32)), .unset, .unset, .unset, .unset, .unset] [(Value.double (FP.l2d (x1.toInt64))), (Value.int (0 : Int32)), (Value.ref ad43), (Value.ref ad43)]))
    obtain ⟨T45, h45, X45, e45, W45, A45, st45⟩ := own_dastore X43 hx hby hZ e43 A43v (j := (0 : Int32)) (i := 0) (by decide) (by decide) (x := (FP.l2d (x1.toInt64))) at_124 (Ls := #[.val (Value.int x0), .val (Value.int x1), .val (Value.int x2), .val (Value.int x3), .val (Value.int x4), .val (Value.int (4 : Int32)), .unset, .unset, .unset, .unset, .unset]) (st := [(Value.ref ad43)])
    have O46 := Old.wr O44 W45 g43n
    have N45 := Fr.snoc X45 N0 g43n
    refine own_st st45 ?_
    show own_G p e below s _ _ _ (T45.setTop (mkF m 125 #[.val (Value.int x0), .val (Value.int x1), .val (Value.int x2), .val (Value.int x3), .val (Value.int x4), .val (Value.int (4 : Int32)), .unset, .unset, .unset, .unset, .unset] [(Value.ref ad43)]))
    refine own_dup X45 hx hby at_125 rfl ?_
    show own_G p e below s _ _ _ (T45.setTop (mkF m 126 #[.val (Value.int x0), .val (Value.int x1), .val (Value.int x2), .val (Value.int x3), .val (Value.int x4), .val (Value.int (4 : Int32)), .unset, .unset, .unset, .unset, .unset] [(Value.ref ad43), (Value.ref ad43)]))
    refine own_iconst X45 hx hby at_126 ?_
    show own_G p e below s _ _ _ (T45.setTop (mkF m 127 #[.val (Value.int x0), .val (Value.int x1), .val (Value.int x2), .val (Value.int x3), .val (Value.int x4), .val (Value.int (4 : Int32)), .unset, .unset, .unset, .unset, .unset] [(Value.int (1 : Int32)), (Value.ref ad43), (Value.ref ad43)]))
    refine own_iloadN X45 hx hby at_127 rfl ?_
    show own_G p e below s _ _ _ (T45.setTop (mkF m 128 #[.val (Value.int x0), .val (Value.int x1), .val (Value.int x2), .val (Value.int x3), .val (Value.int x4), .val (Value.int (4 : Int32)), .unset, .unset, .unset, .unset, .unset] [(Value.int x2), (Value.int (1 : Int32)), (Value.ref ad43), (Value.ref ad43)]))
    refine own_i2d X45 hx hby at_128 ?_
    show own_G p e below s _ _ _ (T45.setTop (mkF m 129 #[.val (Value.int x0), .val (Value.int x1), .val (Value.int x2), .val (Value.int x3), .val (Value.int x4), .val (Value.int (4 : Int32)), .unset, .unset, .unset, .unset, .unset] [(Value.double (FP.l2d (x2.toInt64))), (Value.int (1 : Int32)), (Value.ref ad43), (Value.ref ad43)]))
    obtain ⟨T47, h47, X47, e47, W47, A47, st47⟩ := own_dastore X45 hx hby hZ e45 A45 (j := (1 : Int32)) (i := 1) (by decide) (by decide) (x := (FP.l2d (x2.toInt64))) at_129 (Ls := #[.val (Value.int x0), .val (Value.int x1), .val (Value.int x2), .val (Value.int x3), .val (Value.int x4), .val (Value.int (4 : Int32)), .unset, .unset, .unset, .unset, .unset]) (st := [(Value.ref ad43)])
    have O48 := Old.wr O46 W47 g43n
    have N47 := Fr.snoc X47 N45 g43n
    refine own_st st47 ?_
    show own_G p e below s _ _ _ (T47.setTop (mkF m 130 #[.val (Value.int x0), .val (Value.int x1), .val (Value.int x2), .val (Value.int x3), .val (Value.int x4), .val (Value.int (4 : Int32)), .unset, .unset, .unset, .unset, .unset] [(Value.ref ad43)]))
    refine own_dup X47 hx hby at_130 rfl ?_
    show own_G p e below s _ _ _ (T47.setTop (mkF m 131 #[.val (Value.int x0), .val (Value.int x1), .val (Value.int x2), .val (Value.int x3), .val (Value.int x4), .val (Value.int (4 : Int32)), .unset, .unset, .unset, .unset, .unset] [(Value.ref ad43), (Value.ref ad43)]))
    refine own_iconst X47 hx hby at_131 ?_
    show own_G p e below s _ _ _ (T47.setTop (mkF m 132 #[.val (Value.int x0), .val (Value.int x1), .val (Value.int x2), .val (Value.int x3), .val (Value.int x4), .val (Value.int (4 : Int32)), .unset, .unset, .unset, .unset, .unset] [(Value.int (2 : Int32)), (Value.ref ad43), (Value.ref ad43)]))
    refine own_iloadN X47 hx hby at_132 rfl ?_
    show own_G p e below s _ _ _ (T47.setTop (mkF m 133 #[.val (Value.int x0), .val (Value.int x1), .val (Value.int x2), .val (Value.int x3), .val (Value.int x4), .val (Value.int (4 : Int32)), .unset, .unset, .unset, .unset, .unset] [(Value.int x3), (Value.int (2 : Int32)), (Value.ref ad43), (Value.ref ad43)]))
    refine own_i2d X47 hx hby at_133 ?_
    show own_G p e below s _ _ _ (T47.setTop (mkF m 134 #[.val (Value.int x0), .val (Value.int x1), .val (Value.int x2), .val (Value.int x3), .val (Value.int x4), .val (Value.int (4 : Int32)), .unset, .unset, .unset, .unset, .unset] [(Value.double (FP.l2d (x3.toInt64))), (Value.int (2 : Int32)), (Value.ref ad43), (Value.ref ad43)]))
    obtain ⟨T49, h49, X49, e49, W49, A49, st49⟩ := own_dastore X47 hx hby hZ e47 A47 (j := (2 : Int32)) (i := 2) (by decide) (by decide) (x := (FP.l2d (x3.toInt64))) at_134 (Ls := #[.val (Value.int x0), .val (Value.int x1), .val (Value.int x2), .val (Value.int x3), .val (Value.int x4), .val (Value.int (4 : Int32)), .unset, .unset, .unset, .unset, .unset]) (st := [(Value.ref ad43)])
    have O50 := Old.wr O48 W49 g43n
    have N49 := Fr.snoc X49 N47 g43n
    refine own_st st49 ?_
    show own_G p e below s _ _ _ (T49.setTop (mkF m 135 #[.val (Value.int x0), .val (Value.int x1), .val (Value.int x2), .val (Value.int x3), .val (Value.int x4), .val (Value.int (4 : Int32)), .unset, .unset, .unset, .unset, .unset] [(Value.ref ad43)]))
    refine own_dup X49 hx hby at_135 rfl ?_
    show own_G p e below s _ _ _ (T49.setTop (mkF m 136 #[.val (Value.int x0), .val (Value.int x1), .val (Value.int x2), .val (Value.int x3), .val (Value.int x4), .val (Value.int (4 : Int32)), .unset, .unset, .unset, .unset, .unset] [(Value.ref ad43), (Value.ref ad43)]))
    refine own_iconst X49 hx hby at_136 ?_
    show own_G p e below s _ _ _ (T49.setTop (mkF m 137 #[.val (Value.int x0), .val (Value.int x1), .val (Value.int x2), .val (Value.int x3), .val (Value.int x4), .val (Value.int (4 : Int32)), .unset, .unset, .unset, .unset, .unset] [(Value.int (3 : Int32)), (Value.ref ad43), (Value.ref ad43)]))
    refine own_iload X49 hx hby at_137 rfl ?_
    show own_G p e below s _ _ _ (T49.setTop (mkF m 139 #[.val (Value.int x0), .val (Value.int x1), .val (Value.int x2), .val (Value.int x3), .val (Value.int x4), .val (Value.int (4 : Int32)), .unset, .unset, .unset, .unset, .unset] [(Value.int x4), (Value.int (3 : Int32)), (Value.ref ad43), (Value.ref ad43)]))
    refine own_i2d X49 hx hby at_139 ?_
    show own_G p e below s _ _ _ (T49.setTop (mkF m 140 #[.val (Value.int x0), .val (Value.int x1), .val (Value.int x2), .val (Value.int x3), .val (Value.int x4), .val (Value.int (4 : Int32)), .unset, .unset, .unset, .unset, .unset] [(Value.double (FP.l2d (x4.toInt64))), (Value.int (3 : Int32)), (Value.ref ad43), (Value.ref ad43)]))
    obtain ⟨T51, h51, X51, e51, W51, A51, st51⟩ := own_dastore X49 hx hby hZ e49 A49 (j := (3 : Int32)) (i := 3) (by decide) (by decide) (x := (FP.l2d (x4.toInt64))) at_140 (Ls := #[.val (Value.int x0), .val (Value.int x1), .val (Value.int x2), .val (Value.int x3), .val (Value.int x4), .val (Value.int (4 : Int32)), .unset, .unset, .unset, .unset, .unset]) (st := [(Value.ref ad43)])
    have O52 := Old.wr O50 W51 g43n
    have N51 := Fr.snoc X51 N49 g43n
    refine own_st st51 ?_
    show own_G p e below s _ _ _ (T51.setTop (mkF m 141 #[.val (Value.int x0), .val (Value.int x1), .val (Value.int x2), .val (Value.int x3), .val (Value.int x4), .val (Value.int (4 : Int32)), .unset, .unset, .unset, .unset, .unset] [(Value.ref ad43)]))
    refine own_astore X51 hx hby at_141 rfl (l' := #[.val (Value.int x0), .val (Value.int x1), .val (Value.int x2), .val (Value.int x3), .val (Value.int x4), .val (Value.int (4 : Int32)), .val (Value.ref ad43), .unset, .unset, .unset, .unset]) rfl ?_
    show own_G p e below s _ _ _ (T51.setTop (mkF m 143 #[.val (Value.int x0), .val (Value.int x1), .val (Value.int x2), .val (Value.int x3), .val (Value.int x4), .val (Value.int (4 : Int32)), .val (Value.ref ad43), .unset, .unset, .unset, .unset] []))
    refine own_iloadN X51 hx hby at_143 rfl ?_
    show own_G p e below s _ _ _ (T51.setTop (mkF m 144 #[.val (Value.int x0), .val (Value.int x1), .val (Value.int x2), .val (Value.int x3), .val (Value.int x4), .val (Value.int (4 : Int32)), .val (Value.ref ad43), .unset, .unset, .unset, .unset] [(Value.int x1)]))
    refine own_i2l X51 hx hby at_144 ?_
    show own_G p e below s _ _ _ (T51.setTop (mkF m 145 #[.val (Value.int x0), .val (Value.int x1), .val (Value.int x2), .val (Value.int x3), .val (Value.int x4), .val (Value.int (4 : Int32)), .val (Value.ref ad43), .unset, .unset, .unset, .unset] [(Value.long (x1.toInt64))]))
    refine own_iloadN X51 hx hby at_145 rfl ?_
    show own_G p e below s _ _ _ (T51.setTop (mkF m 146 #[.val (Value.int x0), .val (Value.int x1), .val (Value.int x2), .val (Value.int x3), .val (Value.int x4), .val (Value.int (4 : Int32)), .val (Value.ref ad43), .unset, .unset, .unset, .unset] [(Value.int x2), (Value.long (x1.toInt64))]))
    refine own_i2l X51 hx hby at_146 ?_
    show own_G p e below s _ _ _ (T51.setTop (mkF m 147 #[.val (Value.int x0), .val (Value.int x1), .val (Value.int x2), .val (Value.int x3), .val (Value.int x4), .val (Value.int (4 : Int32)), .val (Value.ref ad43), .unset, .unset, .unset, .unset] [(Value.long (x2.toInt64)), (Value.long (x1.toInt64))]))
    refine own_ladd X51 hx hby at_147 ?_
    show own_G p e below s _ _ _ (T51.setTop (mkF m 148 #[.val (Value.int x0), .val (Value.int x1), .val (Value.int x2), .val (Value.int x3), .val (Value.int x4), .val (Value.int (4 : Int32)), .val (Value.ref ad43), .unset, .unset, .unset, .unset] [(Value.long ((x1.toInt64) + (x2.toInt64)))]))
    refine own_iloadN X51 hx hby at_148 rfl ?_
    show own_G p e below s _ _ _ (T51.setTop (mkF m 149 #[.val (Value.int x0), .val (Value.int x1), .val (Value.int x2), .val (Value.int x3), .val (Value.int x4), .val (Value.int (4 : Int32)), .val (Value.ref ad43), .unset, .unset, .unset, .unset] [(Value.int x3), (Value.long ((x1.toInt64) + (x2.toInt64)))]))
    refine own_i2l X51 hx hby at_149 ?_
    show own_G p e below s _ _ _ (T51.setTop (mkF m 150 #[.val (Value.int x0), .val (Value.int x1), .val (Value.int x2), .val (Value.int x3), .val (Value.int x4), .val (Value.int (4 : Int32)), .val (Value.ref ad43), .unset, .unset, .unset, .unset] [(Value.long (x3.toInt64)), (Value.long ((x1.toInt64) + (x2.toInt64)))]))
    refine own_ladd X51 hx hby at_150 ?_
    show own_G p e below s _ _ _ (T51.setTop (mkF m 151 #[.val (Value.int x0), .val (Value.int x1), .val (Value.int x2), .val (Value.int x3), .val (Value.int x4), .val (Value.int (4 : Int32)), .val (Value.ref ad43), .unset, .unset, .unset, .unset] [(Value.long (((x1.toInt64) + (x2.toInt64)) + (x3.toInt64)))]))
    refine own_iload X51 hx hby at_151 rfl ?_
    show own_G p e below s _ _ _ (T51.setTop (mkF m 153 #[.val (Value.int x0), .val (Value.int x1), .val (Value.int x2), .val (Value.int x3), .val (Value.int x4), .val (Value.int (4 : Int32)), .val (Value.ref ad43), .unset, .unset, .unset, .unset] [(Value.int x4), (Value.long (((x1.toInt64) + (x2.toInt64)) + (x3.toInt64)))]))
    refine own_i2l X51 hx hby at_153 ?_
    show own_G p e below s _ _ _ (T51.setTop (mkF m 154 #[.val (Value.int x0), .val (Value.int x1), .val (Value.int x2), .val (Value.int x3), .val (Value.int x4), .val (Value.int (4 : Int32)), .val (Value.ref ad43), .unset, .unset, .unset, .unset] [(Value.long (x4.toInt64)), (Value.long (((x1.toInt64) + (x2.toInt64)) + (x3.toInt64)))]))
    refine own_ladd X51 hx hby at_154 ?_
    show own_G p e below s _ _ _ (T51.setTop (mkF m 155 #[.val (Value.int x0), .val (Value.int x1), .val (Value.int x2), .val (Value.int x3), .val (Value.int x4), .val (Value.int (4 : Int32)), .val (Value.ref ad43), .unset, .unset, .unset, .unset] [(Value.long ((((x1.toInt64) + (x2.toInt64)) + (x3.toInt64)) + (x4.toInt64)))]))
    refine own_lstore X51 hx hby at_155 (l' := #[.val (Value.int x0), .val (Value.int x1), .val (Value.int x2), .val (Value.int x3), .val (Value.int x4), .val (Value.int (4 : Int32)), .val (Value.ref ad43), .val (Value.long ((((x1.toInt64) + (x2.toInt64)) + (x3.toInt64)) + (x4.toInt64))), .second, .unset, .unset]) rfl ?_
    show own_G p e below s _ _ _ (T51.setTop (mkF m 157 #[.val (Value.int x0), .val (Value.int x1), .val (Value.int x2), .val (Value.int x3), .val (Value.int x4), .val (Value.int (4 : Int32)), .val (Value.ref ad43), .val (Value.long ((((x1.toInt64) + (x2.toInt64)) + (x3.toInt64)) + (x4.toInt64))), .second, .unset, .unset] []))
    have Ab : own_Ar Z h51 ad43 .double 4 (fun j => .double (FP.l2d (own_gk x1 x2 x3 x4 j))) := own_Ar.fn A51 (by intro j hj; have hj2 : j = 0 ∨ j = 1 ∨ j = 2 ∨ j = 3 := (by omega); rcases hj2 with rfl | rfl | rfl | rfl <;> rfl)
    refine own_aload X51 hx hby at_157 rfl rfl ?_
    show own_G p e below s _ _ _ (T51.setTop (mkF m 159 #[.val (Value.int x0), .val (Value.int x1), .val (Value.int x2), .val (Value.int x3), .val (Value.int x4), .val (Value.int (4 : Int32)), .val (Value.ref ad43), .val (Value.long ((((x1.toInt64) + (x2.toInt64)) + (x3.toInt64)) + (x4.toInt64))), .second, .unset, .unset] [(Value.ref ad43)]))
    obtain ⟨_, _, ⟨T53, L53, k53, n53⟩, -, X53, ⟨Lc53, hQ53, l53, y53, z53⟩, st53⟩ := Jvm.LawKit.callS X51 hx (y := (⟨"com/example/wattfloor/wattfloor/market/Vectors", "sum", "([D)D"⟩ : MethodName)) hown (mvT hZ (own_w1 hw)) (mvT hZ (own_w2 hw)) (mvT hZ (own_w3 hw)) (mvT hZ (own_w4 hw)) (by decide) (backOf (W := 0) (own_rmS4 l Z a0 hw [] ad43 (own_gk x1 x2 x3 x4) h51 n0 O52  Ab (own_gk_R x1 x2 x3 x4)) hZ (own_w4 hw) (own_w3 hw) (by decide) (by decide)) (g := (mkF m 159 #[.val (Value.int x0), .val (Value.int x1), .val (Value.int x2), .val (Value.int x3), .val (Value.int x4), .val (Value.int (4 : Int32)), .val (Value.ref ad43), .val (Value.long ((((x1.toInt64) + (x2.toInt64)) + (x3.toInt64)) + (x4.toInt64))), .second, .unset, .unset] [(Value.ref ad43)])) rfl (by rw [hml]; rfl) (argsL := [(Value.ref ad43)]) (rest := []) (lenOf own_pd0 rfl) rfl (by show 2 * 0 + _ ≤ _; exact Nat.le_of_eq rfl) (hb hby at_159) (fun _ _ => ⟨rfl, e51, (by decide : (1 : Nat) + 0 ≤ _), (by decide : (4 : Nat) + 0 ≤ _)⟩)
    dsimp only [Pt.U, Pt.locs, Pt.cells, Pt.slots] at X53 l53 y53 z53 st53 hQ53
    subst l53 y53 z53
    obtain ⟨rfl, e53, Nq53⟩ := hQ53
    have N53 := Fr.app N51 Nq53
    refine own_st st53 ?_
    show own_G p e below s _ _ _ (T53.setTop (mkF m 162 #[.val (Value.int x0), .val (Value.int x1), .val (Value.int x2), .val (Value.int x3), .val (Value.int x4), .val (Value.int (4 : Int32)), .val (Value.ref ad43), .val (Value.long ((((x1.toInt64) + (x2.toInt64)) + (x3.toInt64)) + (x4.toInt64))), .second, .unset, .unset] [(Value.double (FP.l2d (((((0 : Int64) + (own_gk x1 x2 x3 x4 0)) + (own_gk x1 x2 x3 x4 1)) + (own_gk x1 x2 x3 x4 2)) + (own_gk x1 x2 x3 x4 3))))]))
    refine own_dstore X53 hx hby at_162 (l' := #[.val (Value.int x0), .val (Value.int x1), .val (Value.int x2), .val (Value.int x3), .val (Value.int x4), .val (Value.int (4 : Int32)), .val (Value.ref ad43), .val (Value.long ((((x1.toInt64) + (x2.toInt64)) + (x3.toInt64)) + (x4.toInt64))), .second, .val (Value.double (FP.l2d (((((0 : Int64) + (own_gk x1 x2 x3 x4 0)) + (own_gk x1 x2 x3 x4 1)) + (own_gk x1 x2 x3 x4 2)) + (own_gk x1 x2 x3 x4 3)))), .second]) rfl ?_
    show own_G p e below s _ _ _ (T53.setTop (mkF m 164 #[.val (Value.int x0), .val (Value.int x1), .val (Value.int x2), .val (Value.int x3), .val (Value.int x4), .val (Value.int (4 : Int32)), .val (Value.ref ad43), .val (Value.long ((((x1.toInt64) + (x2.toInt64)) + (x3.toInt64)) + (x4.toInt64))), .second, .val (Value.double (FP.l2d (((((0 : Int64) + (own_gk x1 x2 x3 x4 0)) + (own_gk x1 x2 x3 x4 1)) + (own_gk x1 x2 x3 x4 2)) + (own_gk x1 x2 x3 x4 3)))), .second] []))
    refine own_dload X53 hx hby at_164 rfl ?_
    show own_G p e below s _ _ _ (T53.setTop (mkF m 166 #[.val (Value.int x0), .val (Value.int x1), .val (Value.int x2), .val (Value.int x3), .val (Value.int x4), .val (Value.int (4 : Int32)), .val (Value.ref ad43), .val (Value.long ((((x1.toInt64) + (x2.toInt64)) + (x3.toInt64)) + (x4.toInt64))), .second, .val (Value.double (FP.l2d (((((0 : Int64) + (own_gk x1 x2 x3 x4 0)) + (own_gk x1 x2 x3 x4 1)) + (own_gk x1 x2 x3 x4 2)) + (own_gk x1 x2 x3 x4 3)))), .second] [(Value.double (FP.l2d (((((0 : Int64) + (own_gk x1 x2 x3 x4 0)) + (own_gk x1 x2 x3 x4 1)) + (own_gk x1 x2 x3 x4 2)) + (own_gk x1 x2 x3 x4 3))))]))
    refine own_lload X53 hx hby at_166 rfl ?_
    show own_G p e below s _ _ _ (T53.setTop (mkF m 168 #[.val (Value.int x0), .val (Value.int x1), .val (Value.int x2), .val (Value.int x3), .val (Value.int x4), .val (Value.int (4 : Int32)), .val (Value.ref ad43), .val (Value.long ((((x1.toInt64) + (x2.toInt64)) + (x3.toInt64)) + (x4.toInt64))), .second, .val (Value.double (FP.l2d (((((0 : Int64) + (own_gk x1 x2 x3 x4 0)) + (own_gk x1 x2 x3 x4 1)) + (own_gk x1 x2 x3 x4 2)) + (own_gk x1 x2 x3 x4 3)))), .second] [(Value.long ((((x1.toInt64) + (x2.toInt64)) + (x3.toInt64)) + (x4.toInt64))), (Value.double (FP.l2d (((((0 : Int64) + (own_gk x1 x2 x3 x4 0)) + (own_gk x1 x2 x3 x4 1)) + (own_gk x1 x2 x3 x4 2)) + (own_gk x1 x2 x3 x4 3))))]))
    refine own_l2d X53 hx hby at_168 ?_
    show own_G p e below s _ _ _ (T53.setTop (mkF m 169 #[.val (Value.int x0), .val (Value.int x1), .val (Value.int x2), .val (Value.int x3), .val (Value.int x4), .val (Value.int (4 : Int32)), .val (Value.ref ad43), .val (Value.long ((((x1.toInt64) + (x2.toInt64)) + (x3.toInt64)) + (x4.toInt64))), .second, .val (Value.double (FP.l2d (((((0 : Int64) + (own_gk x1 x2 x3 x4 0)) + (own_gk x1 x2 x3 x4 1)) + (own_gk x1 x2 x3 x4 2)) + (own_gk x1 x2 x3 x4 3)))), .second] [(Value.double (FP.l2d ((((x1.toInt64) + (x2.toInt64)) + (x3.toInt64)) + (x4.toInt64)))), (Value.double (FP.l2d (((((0 : Int64) + (own_gk x1 x2 x3 x4 0)) + (own_gk x1 x2 x3 x4 1)) + (own_gk x1 x2 x3 x4 2)) + (own_gk x1 x2 x3 x4 3))))]))
    refine own_dcmp_ne X53 hx hby ((own_R.add (own_R.add (own_R.add (own_R.add own_R.z (own_gk_R x1 x2 x3 x4 0) (by decide)) (own_gk_R x1 x2 x3 x4 1) (by decide)) (own_gk_R x1 x2 x3 x4 2) (by decide)) (own_gk_R x1 x2 x3 x4 3) (by decide)).b53 (by decide)) ((own_R.add (own_R.add (own_R.add (own_R.i x1) (own_R.i x2) (by decide)) (own_R.i x3) (by decide)) (own_R.i x4) (by decide)).b53 (by decide)) at_169 at_170 (pc' := 177) (by decide) (by decide) (fun hb54 => by exfalso; exact hb54 (by show ((0 : Int64) + own_gk x1 x2 x3 x4 0 + own_gk x1 x2 x3 x4 1 + own_gk x1 x2 x3 x4 2 + own_gk x1 x2 x3 x4 3) = _; simp [own_gk])) (fun hb54 => ?_)
    show own_G p e below s _ _ _ (T53.setTop (mkF m 173 #[.val (Value.int x0), .val (Value.int x1), .val (Value.int x2), .val (Value.int x3), .val (Value.int x4), .val (Value.int (4 : Int32)), .val (Value.ref ad43), .val (Value.long ((((x1.toInt64) + (x2.toInt64)) + (x3.toInt64)) + (x4.toInt64))), .second, .val (Value.double (FP.l2d (((((0 : Int64) + (own_gk x1 x2 x3 x4 0)) + (own_gk x1 x2 x3 x4 1)) + (own_gk x1 x2 x3 x4 2)) + (own_gk x1 x2 x3 x4 3)))), .second] []))
    refine own_iconst X53 hx hby at_173 ?_
    show own_G p e below s _ _ _ (T53.setTop (mkF m 174 #[.val (Value.int x0), .val (Value.int x1), .val (Value.int x2), .val (Value.int x3), .val (Value.int x4), .val (Value.int (4 : Int32)), .val (Value.ref ad43), .val (Value.long ((((x1.toInt64) + (x2.toInt64)) + (x3.toInt64)) + (x4.toInt64))), .second, .val (Value.double (FP.l2d (((((0 : Int64) + (own_gk x1 x2 x3 x4 0)) + (own_gk x1 x2 x3 x4 1)) + (own_gk x1 x2 x3 x4 2)) + (own_gk x1 x2 x3 x4 3)))), .second] [(Value.int (1 : Int32))]))
    refine own_goto X53 hx hby at_174 (pc' := 178) (by decide) (by decide) ?_
    show own_G p e below s _ _ _ (T53.setTop (mkF m 178 #[.val (Value.int x0), .val (Value.int x1), .val (Value.int x2), .val (Value.int x3), .val (Value.int x4), .val (Value.int (4 : Int32)), .val (Value.ref ad43), .val (Value.long ((((x1.toInt64) + (x2.toInt64)) + (x3.toInt64)) + (x4.toInt64))), .second, .val (Value.double (FP.l2d (((((0 : Int64) + (own_gk x1 x2 x3 x4 0)) + (own_gk x1 x2 x3 x4 1)) + (own_gk x1 x2 x3 x4 2)) + (own_gk x1 x2 x3 x4 3)))), .second] [(Value.int (1 : Int32))]))
    refine own_retN X53 hx hby hlk (t := .boolean) Bd.returns (by simp) at_178 (by decide) (by decide) ?_
    exact ⟨rfl, N53⟩
set_option maxRecDepth 65536 in
set_option maxHeartbeats 40000000 in
theorem comes_1 {Post : Tables → Env → Array Value → State → Outcome → State → Prop} (hpost : ∀ tb e args s v u, (limb_1_1.after args s (.returned v) u = true ∧ limb_1_2.after args s (.returned v) u = true ∧ True) → FrameEnd s (.returned v) u (Jvm.fieldLocs frame_1_writes args s ++ Jvm.arrayLocs frame_1_arrays args s ++ Jvm.staticLocs frame_1_statics s) 16 128 → Post tb e args s (.returned v) u) :
    ArmFor flags0 classFile x code maxLocals ret World_1 tables_1 room_1 Calls_1 rest_1 Pre_1 Post := by
  intro l hfl _ _ p e ha hc hk s m args below hf hA hF happ hP
  obtain ⟨hcalls, hrest, hpre⟩ := hP
  obtain ⟨-, -, -, hnamed, -, -, -, hat⟩ := (Spec.applies_iff hf).mp happ
  obtain ⟨hg, hn⟩ := and_e (Cond.before_iff.mp (show (Jvm.Cond.and given_1 narrow_1).before args s = true from hpre))
  obtain ⟨hgc, hgr0⟩ := and_e hg
  obtain ⟨hga0, hgr1⟩ := and_e hgr0
  obtain ⟨hga1, hgr2⟩ := and_e hgr1
  obtain ⟨hga2, hgr3⟩ := and_e hgr2
  obtain ⟨hga3, hgr4⟩ := and_e hgr3
  have hga4 := hgr4
  obtain ⟨w0, w1, w2, w3, w4, rfl⟩ : ∃ w0 w1 w2 w3 w4 : Value, args = #[w0, w1, w2, w3, w4] := by
    have hs : args.size = 5 := by simpa [Cond.value, given_1] using hgc
    obtain ⟨L⟩ := args
    match L, hs with
    | [w0, w1, w2, w3, w4], _ => exact ⟨w0, w1, w2, w3, w4, rfl⟩
  have hw := fun d (hd : d ∈ tables_1) => atoms_spec (ws := Jvm.Cond.code x code maxLocals ret :: tables_1) hat d (List.mem_cons_of_mem _ hd)
  have hfit : Fit s := fun {y c} hc i hi => by
    obtain ⟨ha, rfl⟩ := Array.getElem?_eq_some_iff.mp hc
    have q := List.all_eq_true.mp ((Array.all_eq_true_iff_forall_mem.mp hF) _ (Array.getElem_mem ha)) i (List.mem_range.mpr hi)
    simpa [Array.getElem?_eq_getElem hi] using q
  obtain ⟨i0, ei0⟩ := is_v hga0
  obtain rfl : w0 = (.int i0) := Option.some.inj ei0
  obtain ⟨i1, ei1⟩ := is_v hga1
  obtain rfl : w1 = (.int i1) := Option.some.inj ei1
  obtain ⟨i2, ei2⟩ := is_v hga2
  obtain rfl : w2 = (.int i2) := Option.some.inj ei2
  obtain ⟨i3, ei3⟩ := is_v hga3
  obtain rfl : w3 = (.int i3) := Option.some.inj ei3
  obtain ⟨i4, ei4⟩ := is_v hga4
  obtain rfl : w4 = (.int i4) := Option.some.inj ei4
  obtain ⟨n, o, h1, h2, h3, _, L, rfl, ⟨rfl, N⟩, hq⟩ := own_rm0 l s _ hw tables_1 i0 i1 i2 i3 i4  s.heap s.heap.size (Old.start s)  p e ha hc hk s m _ below hf ((Spec.applies_iff_loose hf).mp happ).1 ⟨rfl, State.Warmed39.refl s, rfl⟩ trivial
  refine ⟨n, _, h1, h2, h3, hpost _ _ _ _ _ _ ⟨Cond.after_iff.mpr rfl, Cond.after_iff.mpr (eq_i res_at (Term.int_eval (1)) rfl), trivial⟩ ⟨hq.1, hq.2.1, (hq.2.2.sift fun y hy => Or.inr (N y hy)).mono (by decide) (by decide)⟩⟩
theorem main_1_1 : Claimed_1_1 := comes_1 fun _ _ _ _ _ _ h hF => ⟨h.1, hF⟩
theorem main_1_2 : Claimed_1_2 := comes_1 fun _ _ _ _ _ _ h hF => ⟨h.2.1, hF⟩
end Jvm.Pilot.@@N@@
namespace Jvm.Pilot.@@N@@
open Jvm Jvm.ClassFile Sem Op Lib Jvm.Free Jvm.Stand Jvm.Pilot.@@N@@.Jvm.D
/-! MADE BY PROGRAM (witnessworld.py) out of the Statement's table words and the real class files: 9 classes; the members and pool entries that the words name. The judged class is class 1, her method 1. -/
namespace start1
open Jvm.ClassFile
def u (s : String) : CpInfo := .utf8 (stringToUtf16 s)
/-- a pool by its gaps: so many unusable entries, then the entry; so many at the end -/
def gap : Nat → List CpInfo → List CpInfo
  | 0, r => r
  | n + 1, r => .unusable :: gap n r
def poolList (es : List (Nat × CpInfo)) (last : Nat) : List CpInfo := es.foldr (fun e r => gap e.1 (e.2 :: r)) (gap last [])
def pool (es : List (Nat × CpInfo)) (last : Nat) : Array CpInfo := ⟨poolList es last⟩
def fileOf (pool : Array CpInfo) (this : Nat) (attrs : Array Attribute := #[]) (ms : Array MethodInfo := #[]) (fl : Nat := 33) (sup : Nat := 0) (ifs : Array Nat := #[]) (fds : Array FieldInfo := #[]) : ClassFile where
  minorVersion := 0
  majorVersion := 65
  constantPool := pool
  accessFlags := fl
  thisClass := this
  superClass := sup
  interfaces := ifs
  fields := fds
  methods := ms
  attributes := attrs
def plain (name : String) (sup : Option ClassId) : Class where
  name := name
  kind := .ordinary
  loader := none
  accessFlags := 33
  super := sup
  interfaces := #[]
  cf := none
  fields := #[]
  methods := #[]
  instanceTypes := #[]
  staticTypes := #[]
  resolved := #[]
  callSites := []
  init := .initialized
  statics := none
  mirror := none

def pool0 : Array CpInfo := pool [(5, u "<init>"), (0, u "()V"), (1, .class_ 10), (1, u "java/lang/Object")] 113

def k0m0 : Method := { name := "<init>", desc := "()V", sig := { parameters := [], returnType := none }, accessFlags := 1, code := none }
/-- java/lang/Object -/
def k0 : Class := { plain "java/lang/Object" none with
  accessFlags := 33
  interfaces := #[]
  cf := some (fileOf pool0 8 #[] #[{ accessFlags := 1, nameIndex := 5, descriptorIndex := 6, attributes := #[] }] 33 0 #[] #[])
  fields := #[]
  methods := #[k0m0]
  instanceTypes := #[]
  staticTypes := #[]
  resolved := Array.replicate 124 none
  statics := none }

def pool1 : Array CpInfo := pool [(2, .class_ 4), (1, u "java/lang/Object"), (0, u "<init>"), (0, u "()V"), (0, .methodref 8 9), (0, .class_ 10), (0, .nameAndType 11 12), (0, u "com/example/wattfloor/wattfloor/market/Vectors"), (0, u "sum"), (0, u "([D)D"), (0, .class_ 14), (0, u "com/example/wattfloor/wattfloor/market/VectorsSumPinLaw"), (2, u "law"), (0, u "(IIIII)Z")] 5

def k1m0 : Method := { name := "<init>", desc := "()V", sig := { parameters := [], returnType := none }, accessFlags := 1, code := none }
def k1c1 : Code := { maxStack := 5, maxLocals := 11, code := code, exceptionTable := #[], attributes := #[] }
def k1m1 : Method := { name := "law", desc := "(IIIII)Z", sig := { parameters := [.int, .int, .int, .int, .int], returnType := some .boolean }, accessFlags := 9, code := some k1c1 }
/-- com/example/wattfloor/wattfloor/market/VectorsSumPinLaw -/
def k1 : Class := { plain "com/example/wattfloor/wattfloor/market/VectorsSumPinLaw" (some 0) with
  accessFlags := 49
  interfaces := #[]
  cf := some (fileOf pool1 13 #[] #[{ accessFlags := 1, nameIndex := 5, descriptorIndex := 6, attributes := #[] }, { accessFlags := 9, nameIndex := 17, descriptorIndex := 18, attributes := #[] }] 49 2 #[] #[])
  fields := #[]
  methods := #[k1m0, k1m1]
  instanceTypes := #[]
  staticTypes := #[]
  resolved := Array.replicate 24 none
  statics := none }

def pool2 : Array CpInfo := pool [(2, .class_ 4), (1, u "java/lang/Object"), (0, u "<init>"), (0, u "()V"), (0, .class_ 8), (0, u "com/example/wattfloor/wattfloor/market/Vectors"), (2, u "sum"), (0, u "([D)D")] 5

def k2m0 : Method := { name := "<init>", desc := "()V", sig := { parameters := [], returnType := none }, accessFlags := 2, code := none }
def k2c1 : Code := { maxStack := 4, maxLocals := 8, code := prog_127_method_2_code, exceptionTable := #[], attributes := #[] }
def k2m1 : Method := { name := "sum", desc := "([D)D", sig := { parameters := [(.array .double)], returnType := some .double }, accessFlags := 8, code := some k2c1 }
/-- com/example/wattfloor/wattfloor/market/Vectors -/
def k2 : Class := { plain "com/example/wattfloor/wattfloor/market/Vectors" (some 0) with
  accessFlags := 48
  interfaces := #[]
  cf := some (fileOf pool2 7 #[] #[{ accessFlags := 2, nameIndex := 5, descriptorIndex := 6, attributes := #[] }, { accessFlags := 8, nameIndex := 11, descriptorIndex := 12, attributes := #[] }] 48 2 #[] #[])
  fields := #[]
  methods := #[k2m0, k2m1]
  instanceTypes := #[]
  staticTypes := #[]
  resolved := Array.replicate 18 none
  statics := none }

def pool3 : Array CpInfo := pool [(1, u "java/lang/Cloneable"), (0, .class_ 1), (0, u "java/lang/Object"), (0, .class_ 3)] 3

/-- java/lang/Cloneable -/
def k3 : Class := { plain "java/lang/Cloneable" (some 0) with
  accessFlags := 1537
  interfaces := #[]
  cf := some (fileOf pool3 2 #[] #[] 1537 4 #[] #[])
  fields := #[]
  methods := #[]
  instanceTypes := #[]
  staticTypes := #[]
  resolved := Array.replicate 8 none
  statics := none }

def pool4 : Array CpInfo := pool [(1, u "java/io/Serializable"), (0, .class_ 1), (0, u "java/lang/Object"), (0, .class_ 3)] 3

/-- java/io/Serializable -/
def k4 : Class := { plain "java/io/Serializable" (some 0) with
  accessFlags := 1537
  interfaces := #[]
  cf := some (fileOf pool4 2 #[] #[] 1537 4 #[] #[])
  fields := #[]
  methods := #[]
  instanceTypes := #[]
  staticTypes := #[]
  resolved := Array.replicate 8 none
  statics := none }

/-- the primitive byte -/
def k5 : Class := { plain "byte" none with kind := .primitive 'B', accessFlags := 0x411 }
/-- [B -/
def k6 : Class := { plain "[B" (some 0) with kind := .array 5 .byte, interfaces := #[3, 4], accessFlags := 1041 }

/-- the primitive double -/
def k7 : Class := { plain "double" none with kind := .primitive 'D', accessFlags := 0x411 }
/-- [D -/
def k8 : Class := { plain "[D" (some 0) with kind := .array 7 .double, interfaces := #[3, 4], accessFlags := 1041 }

def heap : Heap := #[]
def classes : Array Class := #[k0, k1, k2, k3, k4, k5, k6, k7, k8]
def interned : List (Array UInt16 × Addr) := []
def slotsUsed : Nat := 0
def theMethod : MethodId := ⟨1, 1⟩
def args0 : Array Value := #[.int 2, .int 3, .int 4, .int 5, .int 6]
def aboutOver (below : List Frame) : State where
  vm := { classes := classes, interned := interned.toArray }
  heap := heap
  slotsUsed := slotsUsed
  threads := #[{ frames := .invoking theMethod args0 :: below }]
def below0 : List Frame := [.native { method := ⟨0, 0⟩, args := #[] }]
def about1 : State := aboutOver below0
def p0 : Program := .bare "" "" ""
def e0 : Env := launch0.env 0 0 0
theorem w_frames : about1.frames = Frame.invoking theMethod args0 :: below0 := rfl
set_option maxRecDepth 65536 in
theorem w_args : argsFit about1.vm theMethod args0 = true := by decide +kernel
set_option maxRecDepth 65536 in
theorem w_heap : heapFits about1 = true := by decide +kernel
set_option maxRecDepth 65536 in
theorem w_runnable : about1.curStatus? = some .runnable := by decide +kernel
set_option maxRecDepth 65536 in
theorem w_alone : about1.alone = true := by decide +kernel
set_option maxRecDepth 65536 in
theorem w_named : about1.methodNamed? x = some theMethod := by decide +kernel
set_option maxRecDepth 65536 in
theorem w_hears : about1.hears theMethod below0 = true := by decide +kernel
set_option maxRecDepth 65536 in
theorem w_ripe : about1.ripe theMethod args0 below0 = true := by decide +kernel
theorem w_running : about1.status = .running := rfl
set_option maxRecDepth 65536 in
theorem w_room : about1.hasRoom e0.platform room_1 = true :=
  launch0.hasRoom_least _ room_1 (by decide +kernel) (by decide +kernel) (by decide +kernel) (by decide +kernel) (by decide +kernel) (by decide +kernel)
theorem allAtoms_all (ts : List Jvm.Cond) (a : Array Jvm.Value) (st : Jvm.State) : (allAtoms ts).before a st = ts.all (fun c => c.before a st) := by
  induction ts with
  | nil => rfl
  | cons c t ih =>
    show (Jvm.Cond.and c (allAtoms t)).before a st = _
    rw [Jvm.Cond.before_and, ih, List.all_cons]
def words1 : List Jvm.Cond := Jvm.Cond.code x code maxLocals ret :: tables_1
/-- a 'code' word, met by the world's own term for the bytes: nothing is compared byte by byte -/
theorem code_word {y : MethodName} {bytes : ByteArray} {mx : Nat} {rt : Option FieldType} {a : Array Value} {s : State} {m : MethodId} {meth : Method} {c : Code} (h1 : s.methodNamed? y = some m) (h2 : s.vm.method? m = some meth) (h3 : meth.code = some c) (h4 : c.code = bytes)
    (h5 : (c.maxLocals == mx && c.exceptionTable.isEmpty && decide (c.maxStack ≤ mostOperands) && decide (meth.sig.returnType = rt) && !meth.locks && decide (parseMethodDescriptor y.desc = some meth.sig)) = true) : (Jvm.Cond.code y bytes mx rt).before a s = true := by
  simp only [Bool.and_eq_true, beq_iff_eq, Bool.not_eq_true', decide_eq_true_eq] at h5
  obtain ⟨⟨⟨⟨⟨g1, g2⟩, g3⟩, g4⟩, g5⟩, g6⟩ := h5
  simp [Cond.before, Cond.holds, Cond.value, h1, h2, h3, h4, g1, g2, g3, g4, g5, g6]
def isCode : Jvm.Cond → Bool
  | .code _ _ _ _ => true
  | _ => false
theorem all_split {L : List Jvm.Cond} {P : Jvm.Cond → Bool} (h1 : L.all (fun c => isCode c || P c) = true) (h2 : ∀ c ∈ L.filter isCode, P c = true) : L.all P = true := by
  refine List.all_eq_true.mpr fun c hc => ?_
  have h := List.all_eq_true.mp h1 c hc
  rcases Bool.eq_false_or_eq_true (isCode c) with hi | hi
  · exact h2 c (List.mem_filter.mpr ⟨hc, hi⟩)
  · simpa [hi] using h
set_option maxRecDepth 65536 in
theorem w_c0 : (Jvm.Cond.code x code maxLocals ret).before args0 about1 = true := code_word (m := ⟨1, 1⟩) (meth := k1m1) (c := k1c1) (by decide +kernel) rfl rfl rfl (by decide +kernel)
set_option maxRecDepth 65536 in
theorem w_c1 : (Jvm.Cond.code ({ cls := "com/example/wattfloor/wattfloor/market/Vectors", name := "sum", desc := "([D)D" } : Jvm.MethodName) prog_127_method_2_code (8 : Nat) (Option.some Jvm.ClassFile.FieldType.double)).before args0 about1 = true := code_word (m := ⟨2, 1⟩) (meth := k2m1) (c := k2c1) (by decide +kernel) rfl rfl rfl (by decide +kernel)
def codes1 : List Jvm.Cond := [Jvm.Cond.code x code maxLocals ret, Jvm.Cond.code ({ cls := "com/example/wattfloor/wattfloor/market/Vectors", name := "sum", desc := "([D)D" } : Jvm.MethodName) prog_127_method_2_code (8 : Nat) (Option.some Jvm.ClassFile.FieldType.double)]
set_option maxRecDepth 65536 in
theorem codes_eq : words1.filter isCode = codes1 := rfl
theorem w_codes : ∀ c ∈ words1.filter isCode, c.before args0 about1 = true := by
  rw [codes_eq]
  intro c hc
  simp only [codes1, List.mem_cons, List.not_mem_nil, or_false] at hc
  rcases hc with rfl | rfl
  · exact w_c0
  · exact w_c1
set_option maxRecDepth 65536 in
theorem w_t1 : words1.all (fun c => isCode c || c.before args0 about1) = true := by decide +kernel
theorem w_tables : (allAtoms (Jvm.Cond.code x code maxLocals ret :: tables_1)).before args0 about1 = true := by
  rw [allAtoms_all]
  show words1.all (fun c => c.before args0 about1) = true
  refine all_split ?_ w_codes
  rw [w_t1]
set_option maxRecDepth 65536 in
theorem w_case : (Jvm.Cond.and given_1 narrow_1).before args0 about1 = true := by decide +kernel
theorem w_applies : (headSpec (Jvm.Cond.code x code maxLocals ret :: tables_1) room_1).applies x e0.platform about1 = true :=
  (Spec.applies_iff w_frames).mpr ⟨w_running, w_runnable, w_alone, w_named, w_hears, w_ripe, w_room, w_tables⟩
theorem atStart : AtStart classFile x code maxLocals ret World_1 tables_1 room_1 Calls_1 rest_1 Pre_1 launch0 p0 e0 about1 theMethod args0 below0 :=
  ⟨lists_1, trivial, launch0.admits_env _ _ _, launch0.least_env, fairChoices_fair.cas, fairChoices_fair.clock, w_frames, w_args, w_heap, w_applies, trivial, trivial, w_case⟩
end start1
theorem witness_1 : WitnessClaimed_1 := ⟨start1.p0, start1.e0, start1.about1, start1.theMethod, start1.args0, start1.below0, start1.atStart⟩
end Jvm.Pilot.@@N@@
