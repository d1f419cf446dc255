import JvmDerived
import JvmDerived.Pilot.@@N@@Statement
import JvmDerived.Pilot.@@N@@Code
set_option linter.unusedVariables false
set_option linter.unusedSimpArgs false
namespace Jvm.Pilot.@@N@@
open Jvm Jvm.ClassFile Sem Op Lib Jvm.Free Jvm.Stand Jvm.LawKit Jvm.RoadKit Bundle Jvm.Pilot.@@N@@.Jvm.D
def own_G (p : Program) (e : Env) (below : List Frame) (s : State) (Q : Option Value → Heap → List Loc → Prop) (k n : Nat) (A : State) : Prop :=
  ∃ s₂ o, Steps p.tables e below A s₂ ∧ s₂.status = .running ∧ Ended s₂ below o ∧ ∃ v L, o = .returned v ∧ Q v s₂.heap L ∧ FrameEnd s o s₂ L k n
theorem own_st {p : Program} {e : Env} {below : List Frame} {s : State} {Q : Option Value → Heap → List Loc → Prop} {k n : Nat} {A B : State} (f : ∀ t, Steps p.tables e below B t → Steps p.tables e below A t) (h : own_G p e below s Q k n B) : own_G p e below s Q k n A := by
  obtain ⟨t, o, h1, h2⟩ := h; exact ⟨t, o, f t h1, h2⟩
theorem own_tr {p : Program} {e : Env} {below : List Frame} {s : State} {Q : Option Value → Heap → List Loc → Prop} {k n : Nat} {A B : State} (f : Steps p.tables e below A B) (h : own_G p e below s Q k n B) : own_G p e below s Q k n A := own_st (fun _ => f.trans) h
theorem own_cast {p : Program} {e : Env} {below : List Frame} {s T : State} {Q : Option Value → Heap → List Loc → Prop} {k n : Nat} {g g' : JFrame} (q : g = g') (h : own_G p e below s Q k n (T.setTop g')) : own_G p e below s Q k n (T.setTop g) := q ▸ h
section OwnSteps
variable {p : Program} {l : Launch} {e : Env} {R : Room} {s : State} {m : MethodId} {args : Array Value} {below : List Frame} {meth : Method} {c : Code} {T : State} {locs : List Loc} {cells slots : Nat} {Q : Option Value → Heap → List Loc → Prop} {k n : Nat} {code : ByteArray} {pc : Nat} {Ls : Array Slot} {st : List Value} {Z : State} {a0 : Array Value} {h : Heap}
theorem own_retI (X : Stand p l e R s m args below meth c T locs cells slots) (hx : p.tables.exec = Jvm.exec) (hby : c.code = code) (hlk : meth.locks = false) (hret : meth.sig.returnType = some .int) {z : Int32} (hd : decode code pc = .ok (.ireturn, 1)) (hk : cells ≤ k) (hn : slots ≤ n) (hQ : Q (some (.int z)) T.heap locs) : own_G p e below s Q k n (T.setTop (mkF m pc Ls (.int z :: st))) := by
  obtain ⟨fs, hr, hrun, hended, hW, hsame⟩ := X.leave (v := some (.int z)) (fun h => by rw [hret] at h; cases h) hlk
  exact ⟨_, _, retOut X hx (t := .int) hret rfl (Or.inl ⟨rfl, Or.inl rfl, z, rfl⟩) (hb hby hd) hr, hrun, hended, _, _, rfl, hQ, ⟨_, rfl⟩, hW, hsame.mono hk hn⟩
theorem own_retJ (X : Stand p l e R s m args below meth c T locs cells slots) (hx : p.tables.exec = Jvm.exec) (hby : c.code = code) (hlk : meth.locks = false) (hret : meth.sig.returnType = some .long) {z : Int64} (hd : decode code pc = .ok (.lreturn, 1)) (hk : cells ≤ k) (hn : slots ≤ n) (hQ : Q (some (.long z)) T.heap locs) : own_G p e below s Q k n (T.setTop (mkF m pc Ls (.long z :: st))) := by
  obtain ⟨fs, hr, hrun, hended, hW, hsame⟩ := X.leave (v := some (.long z)) (fun h => by rw [hret] at h; cases h) hlk
  exact ⟨_, _, retOut X hx (t := .long) hret rfl (Or.inr (Or.inl ⟨rfl, rfl, z, rfl⟩)) (hb hby hd) hr, hrun, hended, _, _, rfl, hQ, ⟨_, rfl⟩, hW, hsame.mono hk hn⟩
theorem own_retD (X : Stand p l e R s m args below meth c T locs cells slots) (hx : p.tables.exec = Jvm.exec) (hby : c.code = code) (hlk : meth.locks = false) (hret : meth.sig.returnType = some .double) {z : UInt64} (hd : decode code pc = .ok (.dreturn, 1)) (hk : cells ≤ k) (hn : slots ≤ n) (hQ : Q (some (.double z)) T.heap locs) : own_G p e below s Q k n (T.setTop (mkF m pc Ls (.double z :: st))) := by
  obtain ⟨fs, hr, hrun, hended, hW, hsame⟩ := X.leave (v := some (.double z)) (fun h => by rw [hret] at h; cases h) hlk
  exact ⟨_, _, retOut X hx (t := .double) hret rfl (Or.inr (Or.inr (Or.inl ⟨rfl, rfl, z, rfl⟩))) (hb hby hd) hr, hrun, hended, _, _, rfl, hQ, ⟨_, rfl⟩, hW, hsame.mono hk hn⟩
theorem own_retA (X : Stand p l e R s m args below meth c T locs cells slots) (hx : p.tables.exec = Jvm.exec) (hby : c.code = code) (hlk : meth.locks = false) {ty : FieldType} (hret : meth.sig.returnType = some ty) (hty : ty.isReference = true) {z : Value} (hz : z.isRef = true) (hnz : narrow ty z = z) (hd : decode code pc = .ok (.areturn, 1)) (hk : cells ≤ k) (hn : slots ≤ n) (hQ : Q (some z) T.heap locs) : own_G p e below s Q k n (T.setTop (mkF m pc Ls (z :: st))) := by
  obtain ⟨fs, hr, hrun, hended, hW, hsame⟩ := X.leave (v := some z) (fun h => by rw [hret] at h; cases h) hlk
  exact ⟨_, _, retOut X hx (t := ty) hret hnz (Or.inr (Or.inr (Or.inr (Or.inr ⟨rfl, hty, hz⟩)))) (hb hby hd) hr, hrun, hended, _, _, rfl, hQ, ⟨_, rfl⟩, hW, hsame.mono hk hn⟩
theorem own_retN (X : Stand p l e R s m args below meth c T locs cells slots) (hx : p.tables.exec = Jvm.exec) (hby : c.code = code) (hlk : meth.locks = false) {t : FieldType} (hret : meth.sig.returnType = some t) (ht : t = .boolean ∨ t = .byte ∨ t = .char ∨ t = .short) {z : Int32} (hd : decode code pc = .ok (.ireturn, 1)) (hk : cells ≤ k) (hn : slots ≤ n) (hQ : Q (some (.int (nar t z))) T.heap locs) : own_G p e below s Q k n (T.setTop (mkF m pc Ls (.int z :: st))) := by
  obtain ⟨fs, hr, hrun, hended, hW, hsame⟩ := X.leave (v := some (.int (nar t z))) (fun h => by rw [hret] at h; cases h) hlk
  exact ⟨_, _, retN X hx (t := t) hret ht (hb hby hd) hr, hrun, hended, _, _, rfl, hQ, ⟨_, rfl⟩, hW, hsame.mono hk hn⟩
theorem own_ret0 (X : Stand p l e R s m args below meth c T locs cells slots) (hx : p.tables.exec = Jvm.exec) (hby : c.code = code) (hlk : meth.locks = false) (hret : meth.sig.returnType = none) (hd : decode code pc = .ok (.return_, 1)) (hk : cells ≤ k) (hn : slots ≤ n) (hQ : Q none T.heap locs) : own_G p e below s Q k n (T.setTop (mkF m pc Ls [])) := by
  obtain ⟨fs, hr, hrun, hended, hW, hsame⟩ := X.leave (v := none) (fun _ => rfl) hlk
  exact ⟨_, _, X.returnOut hx hret (hb hby hd) hr, hrun, hended, _, _, rfl, hQ, ⟨_, rfl⟩, hW, hsame.mono hk hn⟩
theorem own_iloadN (X : Stand p l e R s m args below meth c T locs cells slots) (hx : p.tables.exec = Jvm.exec) (hby : c.code = code) {kk : Fin 4} {v : Int32} (hd : decode code pc = .ok (.iload_n kk, 1)) (hl : Ls[kk.val]? = some (.val (.int v))) (h : own_G p e below s Q k n (T.setTop (mkF m (pc + 1) Ls (.int v :: st)))) : own_G p e below s Q k n (T.setTop (mkF m pc Ls st)) := own_st (fun _ => XS.iloadN X.here hx rfl (hb hby hd) hl) h
theorem own_iload (X : Stand p l e R s m args below meth c T locs cells slots) (hx : p.tables.exec = Jvm.exec) (hby : c.code = code) {kk : Nat} {v : Int32} (hd : decode code pc = .ok (.iload kk, 2)) (hl : Ls[kk]? = some (.val (.int v))) (h : own_G p e below s Q k n (T.setTop (mkF m (pc + 2) Ls (.int v :: st)))) : own_G p e below s Q k n (T.setTop (mkF m pc Ls st)) := own_st (fun _ => XS.iload X.here hx rfl (hb hby hd) hl) h
theorem own_lloadN (X : Stand p l e R s m args below meth c T locs cells slots) (hx : p.tables.exec = Jvm.exec) (hby : c.code = code) {kk : Fin 4} {v : Int64} (hd : decode code pc = .ok (.lload_n kk, 1)) (hl : Ls[kk.val]? = some (.val (.long v))) (h : own_G p e below s Q k n (T.setTop (mkF m (pc + 1) Ls (.long v :: st)))) : own_G p e below s Q k n (T.setTop (mkF m pc Ls st)) := own_st (fun _ => XS.lloadN X.here hx rfl (hb hby hd) hl) h
theorem own_lload (X : Stand p l e R s m args below meth c T locs cells slots) (hx : p.tables.exec = Jvm.exec) (hby : c.code = code) {kk : Nat} {v : Int64} (hd : decode code pc = .ok (.lload kk, 2)) (hl : Ls[kk]? = some (.val (.long v))) (h : own_G p e below s Q k n (T.setTop (mkF m (pc + 2) Ls (.long v :: st)))) : own_G p e below s Q k n (T.setTop (mkF m pc Ls st)) := own_st (fun _ => XS.lload X.here hx rfl (hb hby hd) hl) h
theorem own_dloadN (X : Stand p l e R s m args below meth c T locs cells slots) (hx : p.tables.exec = Jvm.exec) (hby : c.code = code) {kk : Fin 4} {v : UInt64} (hd : decode code pc = .ok (.dload_n kk, 1)) (hl : Ls[kk.val]? = some (.val (.double v))) (h : own_G p e below s Q k n (T.setTop (mkF m (pc + 1) Ls (.double v :: st)))) : own_G p e below s Q k n (T.setTop (mkF m pc Ls st)) := own_st (fun _ => XS.dloadN X.here hx rfl (hb hby hd) hl) h
theorem own_dload (X : Stand p l e R s m args below meth c T locs cells slots) (hx : p.tables.exec = Jvm.exec) (hby : c.code = code) {kk : Nat} {v : UInt64} (hd : decode code pc = .ok (.dload kk, 2)) (hl : Ls[kk]? = some (.val (.double v))) (h : own_G p e below s Q k n (T.setTop (mkF m (pc + 2) Ls (.double v :: st)))) : own_G p e below s Q k n (T.setTop (mkF m pc Ls st)) := own_st (fun _ => XS.dload X.here hx rfl (hb hby hd) hl) h
theorem own_aloadN (X : Stand p l e R s m args below meth c T locs cells slots) (hx : p.tables.exec = Jvm.exec) (hby : c.code = code) {kk : Fin 4} {v : Value} (hd : decode code pc = .ok (.aload_n kk, 1)) (hl : Ls[kk.val]? = some (.val v)) (hv : v.isRef = true) (h : own_G p e below s Q k n (T.setTop (mkF m (pc + 1) Ls (v :: st)))) : own_G p e below s Q k n (T.setTop (mkF m pc Ls st)) := own_st (fun _ => XS.aloadN X.here hx rfl (hb hby hd) hl hv) h
theorem own_aload (X : Stand p l e R s m args below meth c T locs cells slots) (hx : p.tables.exec = Jvm.exec) (hby : c.code = code) {kk : Nat} {v : Value} (hd : decode code pc = .ok (.aload kk, 2)) (hl : Ls[kk]? = some (.val v)) (hv : v.isRef = true) (h : own_G p e below s Q k n (T.setTop (mkF m (pc + 2) Ls (v :: st)))) : own_G p e below s Q k n (T.setTop (mkF m pc Ls st)) := own_st (fun _ => XS.aload X.here hx rfl (hb hby hd) hl hv) h
theorem own_istoreN (X : Stand p l e R s m args below meth c T locs cells slots) (hx : p.tables.exec = Jvm.exec) (hby : c.code = code) {kk : Fin 4} {v : Int32} {l' : Array Slot} (hd : decode code pc = .ok (.istore_n kk, 1)) (hl : storeLocals Ls kk.val (.int v) = some l') (h : own_G p e below s Q k n (T.setTop (mkF m (pc + 1) l' st))) : own_G p e below s Q k n (T.setTop (mkF m pc Ls (.int v :: st))) := own_st (fun _ => XS.istoreN X.here hx rfl (hb hby hd) rfl hl) h
theorem own_istore (X : Stand p l e R s m args below meth c T locs cells slots) (hx : p.tables.exec = Jvm.exec) (hby : c.code = code) {kk : Nat} {v : Int32} {l' : Array Slot} (hd : decode code pc = .ok (.istore kk, 2)) (hl : storeLocals Ls kk (.int v) = some l') (h : own_G p e below s Q k n (T.setTop (mkF m (pc + 2) l' st))) : own_G p e below s Q k n (T.setTop (mkF m pc Ls (.int v :: st))) := own_st (fun _ => XS.istore X.here hx rfl (hb hby hd) rfl hl) h
theorem own_lstoreN (X : Stand p l e R s m args below meth c T locs cells slots) (hx : p.tables.exec = Jvm.exec) (hby : c.code = code) {kk : Fin 4} {v : Int64} {l' : Array Slot} (hd : decode code pc = .ok (.lstore_n kk, 1)) (hl : storeLocals Ls kk.val (.long v) = some l') (h : own_G p e below s Q k n (T.setTop (mkF m (pc + 1) l' st))) : own_G p e below s Q k n (T.setTop (mkF m pc Ls (.long v :: st))) := own_st (fun _ => XS.lstoreN X.here hx rfl (hb hby hd) rfl hl) h
theorem own_lstore (X : Stand p l e R s m args below meth c T locs cells slots) (hx : p.tables.exec = Jvm.exec) (hby : c.code = code) {kk : Nat} {v : Int64} {l' : Array Slot} (hd : decode code pc = .ok (.lstore kk, 2)) (hl : storeLocals Ls kk (.long v) = some l') (h : own_G p e below s Q k n (T.setTop (mkF m (pc + 2) l' st))) : own_G p e below s Q k n (T.setTop (mkF m pc Ls (.long v :: st))) := own_st (fun _ => XS.lstore X.here hx rfl (hb hby hd) rfl hl) h
theorem own_dstoreN (X : Stand p l e R s m args below meth c T locs cells slots) (hx : p.tables.exec = Jvm.exec) (hby : c.code = code) {kk : Fin 4} {v : UInt64} {l' : Array Slot} (hd : decode code pc = .ok (.dstore_n kk, 1)) (hl : storeLocals Ls kk.val (.double v) = some l') (h : own_G p e below s Q k n (T.setTop (mkF m (pc + 1) l' st))) : own_G p e below s Q k n (T.setTop (mkF m pc Ls (.double v :: st))) := own_st (fun _ => XS.dstoreN X.here hx rfl (hb hby hd) rfl hl) h
theorem own_dstore (X : Stand p l e R s m args below meth c T locs cells slots) (hx : p.tables.exec = Jvm.exec) (hby : c.code = code) {kk : Nat} {v : UInt64} {l' : Array Slot} (hd : decode code pc = .ok (.dstore kk, 2)) (hl : storeLocals Ls kk (.double v) = some l') (h : own_G p e below s Q k n (T.setTop (mkF m (pc + 2) l' st))) : own_G p e below s Q k n (T.setTop (mkF m pc Ls (.double v :: st))) := own_st (fun _ => XS.dstore X.here hx rfl (hb hby hd) rfl hl) h
theorem own_astoreN (X : Stand p l e R s m args below meth c T locs cells slots) (hx : p.tables.exec = Jvm.exec) (hby : c.code = code) {kk : Fin 4} {v : Value} {l' : Array Slot} (hd : decode code pc = .ok (.astore_n kk, 1)) (hv : v.isRef = true) (hl : storeLocals Ls kk.val v = some l') (h : own_G p e below s Q k n (T.setTop (mkF m (pc + 1) l' st))) : own_G p e below s Q k n (T.setTop (mkF m pc Ls (v :: st))) := own_st (fun _ => XS.astoreN X.here hx rfl (hb hby hd) rfl hv hl) h
theorem own_astore (X : Stand p l e R s m args below meth c T locs cells slots) (hx : p.tables.exec = Jvm.exec) (hby : c.code = code) {kk : Nat} {v : Value} {l' : Array Slot} (hd : decode code pc = .ok (.astore kk, 2)) (hv : v.isRef = true) (hl : storeLocals Ls kk v = some l') (h : own_G p e below s Q k n (T.setTop (mkF m (pc + 2) l' st))) : own_G p e below s Q k n (T.setTop (mkF m pc Ls (v :: st))) := own_st (fun _ => XS.astore X.here hx rfl (hb hby hd) rfl hv hl) h
theorem own_iconst (X : Stand p l e R s m args below meth c T locs cells slots) (hx : p.tables.exec = Jvm.exec) (hby : c.code = code) {i : Int} (hd : decode code pc = .ok (.iconst i, 1))  (h : own_G p e below s Q k n (T.setTop (mkF m (pc + 1) Ls (.int (Int32.ofInt i) :: st)))) : own_G p e below s Q k n (T.setTop (mkF m pc Ls st)) := own_st (fun _ => XS.iconst X.here hx rfl (hb hby hd)) h
theorem own_bipush (X : Stand p l e R s m args below meth c T locs cells slots) (hx : p.tables.exec = Jvm.exec) (hby : c.code = code) {i : Int} (hd : decode code pc = .ok (.bipush i, 2))  (h : own_G p e below s Q k n (T.setTop (mkF m (pc + 2) Ls (.int (Int8.ofInt i).toInt32 :: st)))) : own_G p e below s Q k n (T.setTop (mkF m pc Ls st)) := own_st (fun _ => XS.bipush X.here hx rfl (hb hby hd)) h
theorem own_sipush (X : Stand p l e R s m args below meth c T locs cells slots) (hx : p.tables.exec = Jvm.exec) (hby : c.code = code) {i : Int} (hd : decode code pc = .ok (.sipush i, 3))  (h : own_G p e below s Q k n (T.setTop (mkF m (pc + 3) Ls (.int (Int16.ofInt i).toInt32 :: st)))) : own_G p e below s Q k n (T.setTop (mkF m pc Ls st)) := own_st (fun _ => XS.sipush X.here hx rfl (hb hby hd)) h
theorem own_lconst (X : Stand p l e R s m args below meth c T locs cells slots) (hx : p.tables.exec = Jvm.exec) (hby : c.code = code) {i : Fin 2} (hd : decode code pc = .ok (.lconst i, 1))  (h : own_G p e below s Q k n (T.setTop (mkF m (pc + 1) Ls (.long (Int64.ofNat i) :: st)))) : own_G p e below s Q k n (T.setTop (mkF m pc Ls st)) := own_st (fun _ => XS.lconst X.here hx rfl (hb hby hd)) h
theorem own_aconst_null (X : Stand p l e R s m args below meth c T locs cells slots) (hx : p.tables.exec = Jvm.exec) (hby : c.code = code)  (hd : decode code pc = .ok (.aconst_null, 1))  (h : own_G p e below s Q k n (T.setTop (mkF m (pc + 1) Ls (.null :: st)))) : own_G p e below s Q k n (T.setTop (mkF m pc Ls st)) := own_st (fun _ => XS.aconstNull X.here hx rfl (hb hby hd)) h
theorem own_iadd (X : Stand p l e R s m args below meth c T locs cells slots) (hx : p.tables.exec = Jvm.exec) (hby : c.code = code) {x y : Int32} (hd : decode code pc = .ok (.iadd, 1))  (h : own_G p e below s Q k n (T.setTop (mkF m (pc + 1) Ls (.int (x + y) :: st)))) : own_G p e below s Q k n (T.setTop (mkF m pc Ls (.int y :: .int x :: st))) := own_st (fun _ => XS.iadd X.here hx rfl (hb hby hd) rfl) h
theorem own_isub (X : Stand p l e R s m args below meth c T locs cells slots) (hx : p.tables.exec = Jvm.exec) (hby : c.code = code) {x y : Int32} (hd : decode code pc = .ok (.isub, 1))  (h : own_G p e below s Q k n (T.setTop (mkF m (pc + 1) Ls (.int (x - y) :: st)))) : own_G p e below s Q k n (T.setTop (mkF m pc Ls (.int y :: .int x :: st))) := own_st (fun _ => XS.isub X.here hx rfl (hb hby hd) rfl) h
theorem own_imul (X : Stand p l e R s m args below meth c T locs cells slots) (hx : p.tables.exec = Jvm.exec) (hby : c.code = code) {x y : Int32} (hd : decode code pc = .ok (.imul, 1))  (h : own_G p e below s Q k n (T.setTop (mkF m (pc + 1) Ls (.int (x * y) :: st)))) : own_G p e below s Q k n (T.setTop (mkF m pc Ls (.int y :: .int x :: st))) := own_st (fun _ => XS.imul X.here hx rfl (hb hby hd) rfl) h
theorem own_iand (X : Stand p l e R s m args below meth c T locs cells slots) (hx : p.tables.exec = Jvm.exec) (hby : c.code = code) {x y : Int32} (hd : decode code pc = .ok (.iand, 1))  (h : own_G p e below s Q k n (T.setTop (mkF m (pc + 1) Ls (.int (x &&& y) :: st)))) : own_G p e below s Q k n (T.setTop (mkF m pc Ls (.int y :: .int x :: st))) := own_st (fun _ => XS.iand X.here hx rfl (hb hby hd) rfl) h
theorem own_ior (X : Stand p l e R s m args below meth c T locs cells slots) (hx : p.tables.exec = Jvm.exec) (hby : c.code = code) {x y : Int32} (hd : decode code pc = .ok (.ior, 1))  (h : own_G p e below s Q k n (T.setTop (mkF m (pc + 1) Ls (.int (x ||| y) :: st)))) : own_G p e below s Q k n (T.setTop (mkF m pc Ls (.int y :: .int x :: st))) := own_st (fun _ => XS.ior X.here hx rfl (hb hby hd) rfl) h
theorem own_ixor (X : Stand p l e R s m args below meth c T locs cells slots) (hx : p.tables.exec = Jvm.exec) (hby : c.code = code) {x y : Int32} (hd : decode code pc = .ok (.ixor, 1))  (h : own_G p e below s Q k n (T.setTop (mkF m (pc + 1) Ls (.int (x ^^^ y) :: st)))) : own_G p e below s Q k n (T.setTop (mkF m pc Ls (.int y :: .int x :: st))) := own_st (fun _ => XS.ixor X.here hx rfl (hb hby hd) rfl) h
theorem own_ishl (X : Stand p l e R s m args below meth c T locs cells slots) (hx : p.tables.exec = Jvm.exec) (hby : c.code = code) {x y : Int32} (hd : decode code pc = .ok (.ishl, 1))  (h : own_G p e below s Q k n (T.setTop (mkF m (pc + 1) Ls (.int (x <<< (y &&& 31)) :: st)))) : own_G p e below s Q k n (T.setTop (mkF m pc Ls (.int y :: .int x :: st))) := own_st (fun _ => XS.ishl X.here hx rfl (hb hby hd) rfl) h
theorem own_ishr (X : Stand p l e R s m args below meth c T locs cells slots) (hx : p.tables.exec = Jvm.exec) (hby : c.code = code) {x y : Int32} (hd : decode code pc = .ok (.ishr, 1))  (h : own_G p e below s Q k n (T.setTop (mkF m (pc + 1) Ls (.int (x >>> (y &&& 31)) :: st)))) : own_G p e below s Q k n (T.setTop (mkF m pc Ls (.int y :: .int x :: st))) := own_st (fun _ => XS.ishr X.here hx rfl (hb hby hd) rfl) h
theorem own_iushr (X : Stand p l e R s m args below meth c T locs cells slots) (hx : p.tables.exec = Jvm.exec) (hby : c.code = code) {x y : Int32} (hd : decode code pc = .ok (.iushr, 1))  (h : own_G p e below s Q k n (T.setTop (mkF m (pc + 1) Ls (.int ((x.toUInt32 >>> (y &&& 31).toUInt32).toInt32) :: st)))) : own_G p e below s Q k n (T.setTop (mkF m pc Ls (.int y :: .int x :: st))) := own_st (fun _ => XS.iushr X.here hx rfl (hb hby hd) rfl) h
theorem own_ladd (X : Stand p l e R s m args below meth c T locs cells slots) (hx : p.tables.exec = Jvm.exec) (hby : c.code = code) {x y : Int64} (hd : decode code pc = .ok (.ladd, 1))  (h : own_G p e below s Q k n (T.setTop (mkF m (pc + 1) Ls (.long (x + y) :: st)))) : own_G p e below s Q k n (T.setTop (mkF m pc Ls (.long y :: .long x :: st))) := own_st (fun _ => XS.ladd X.here hx rfl (hb hby hd) rfl) h
theorem own_lsub (X : Stand p l e R s m args below meth c T locs cells slots) (hx : p.tables.exec = Jvm.exec) (hby : c.code = code) {x y : Int64} (hd : decode code pc = .ok (.lsub, 1))  (h : own_G p e below s Q k n (T.setTop (mkF m (pc + 1) Ls (.long (x - y) :: st)))) : own_G p e below s Q k n (T.setTop (mkF m pc Ls (.long y :: .long x :: st))) := own_st (fun _ => XS.lsub X.here hx rfl (hb hby hd) rfl) h
theorem own_lmul (X : Stand p l e R s m args below meth c T locs cells slots) (hx : p.tables.exec = Jvm.exec) (hby : c.code = code) {x y : Int64} (hd : decode code pc = .ok (.lmul, 1))  (h : own_G p e below s Q k n (T.setTop (mkF m (pc + 1) Ls (.long (x * y) :: st)))) : own_G p e below s Q k n (T.setTop (mkF m pc Ls (.long y :: .long x :: st))) := own_st (fun _ => XS.lmul X.here hx rfl (hb hby hd) rfl) h
theorem own_land (X : Stand p l e R s m args below meth c T locs cells slots) (hx : p.tables.exec = Jvm.exec) (hby : c.code = code) {x y : Int64} (hd : decode code pc = .ok (.land, 1))  (h : own_G p e below s Q k n (T.setTop (mkF m (pc + 1) Ls (.long (x &&& y) :: st)))) : own_G p e below s Q k n (T.setTop (mkF m pc Ls (.long y :: .long x :: st))) := own_st (fun _ => XS.land X.here hx rfl (hb hby hd) rfl) h
theorem own_lor (X : Stand p l e R s m args below meth c T locs cells slots) (hx : p.tables.exec = Jvm.exec) (hby : c.code = code) {x y : Int64} (hd : decode code pc = .ok (.lor, 1))  (h : own_G p e below s Q k n (T.setTop (mkF m (pc + 1) Ls (.long (x ||| y) :: st)))) : own_G p e below s Q k n (T.setTop (mkF m pc Ls (.long y :: .long x :: st))) := own_st (fun _ => XS.lor X.here hx rfl (hb hby hd) rfl) h
theorem own_lxor (X : Stand p l e R s m args below meth c T locs cells slots) (hx : p.tables.exec = Jvm.exec) (hby : c.code = code) {x y : Int64} (hd : decode code pc = .ok (.lxor, 1))  (h : own_G p e below s Q k n (T.setTop (mkF m (pc + 1) Ls (.long (x ^^^ y) :: st)))) : own_G p e below s Q k n (T.setTop (mkF m pc Ls (.long y :: .long x :: st))) := own_st (fun _ => XS.lxor X.here hx rfl (hb hby hd) rfl) h
theorem own_lshl (X : Stand p l e R s m args below meth c T locs cells slots) (hx : p.tables.exec = Jvm.exec) (hby : c.code = code) {x : Int64} {y : Int32} (hd : decode code pc = .ok (.lshl, 1))  (h : own_G p e below s Q k n (T.setTop (mkF m (pc + 1) Ls (.long (x <<< (y &&& 0x3f).toInt64) :: st)))) : own_G p e below s Q k n (T.setTop (mkF m pc Ls (.int y :: .long x :: st))) := own_st (fun _ => XS.lshl X.here hx rfl (hb hby hd) rfl) h
theorem own_lshr (X : Stand p l e R s m args below meth c T locs cells slots) (hx : p.tables.exec = Jvm.exec) (hby : c.code = code) {x : Int64} {y : Int32} (hd : decode code pc = .ok (.lshr, 1))  (h : own_G p e below s Q k n (T.setTop (mkF m (pc + 1) Ls (.long (x >>> (y &&& 0x3f).toInt64) :: st)))) : own_G p e below s Q k n (T.setTop (mkF m pc Ls (.int y :: .long x :: st))) := own_st (fun _ => XS.lshr X.here hx rfl (hb hby hd) rfl) h
theorem own_lushr (X : Stand p l e R s m args below meth c T locs cells slots) (hx : p.tables.exec = Jvm.exec) (hby : c.code = code) {x : Int64} {y : Int32} (hd : decode code pc = .ok (.lushr, 1))  (h : own_G p e below s Q k n (T.setTop (mkF m (pc + 1) Ls (.long ((x.toUInt64 >>> (y &&& 0x3f).toInt64.toUInt64).toInt64) :: st)))) : own_G p e below s Q k n (T.setTop (mkF m pc Ls (.int y :: .long x :: st))) := own_st (fun _ => XS.lushr X.here hx rfl (hb hby hd) rfl) h
theorem own_idiv (X : Stand p l e R s m args below meth c T locs cells slots) (hx : p.tables.exec = Jvm.exec) (hby : c.code = code) {x y : Int32} (hd : decode code pc = .ok (.idiv, 1)) (hy : y ≠ 0) (h : own_G p e below s Q k n (T.setTop (mkF m (pc + 1) Ls (.int (x / y) :: st)))) : own_G p e below s Q k n (T.setTop (mkF m pc Ls (.int y :: .int x :: st))) := own_st (fun _ => XS.idiv X.here hx rfl (hb hby hd) rfl hy) h
theorem own_irem (X : Stand p l e R s m args below meth c T locs cells slots) (hx : p.tables.exec = Jvm.exec) (hby : c.code = code) {x y : Int32} (hd : decode code pc = .ok (.irem, 1)) (hy : y ≠ 0) (h : own_G p e below s Q k n (T.setTop (mkF m (pc + 1) Ls (.int (x % y) :: st)))) : own_G p e below s Q k n (T.setTop (mkF m pc Ls (.int y :: .int x :: st))) := own_st (fun _ => iremM X hx rfl (hb hby hd) rfl hy) h
theorem own_ldiv (X : Stand p l e R s m args below meth c T locs cells slots) (hx : p.tables.exec = Jvm.exec) (hby : c.code = code) {x y : Int64} (hd : decode code pc = .ok (.ldiv, 1)) (hy : y ≠ 0) (h : own_G p e below s Q k n (T.setTop (mkF m (pc + 1) Ls (.long (x / y) :: st)))) : own_G p e below s Q k n (T.setTop (mkF m pc Ls (.long y :: .long x :: st))) := own_st (fun _ => XS.ldiv X.here hx rfl (hb hby hd) rfl hy) h
theorem own_lrem (X : Stand p l e R s m args below meth c T locs cells slots) (hx : p.tables.exec = Jvm.exec) (hby : c.code = code) {x y : Int64} (hd : decode code pc = .ok (.lrem, 1)) (hy : y ≠ 0) (h : own_G p e below s Q k n (T.setTop (mkF m (pc + 1) Ls (.long (x % y) :: st)))) : own_G p e below s Q k n (T.setTop (mkF m pc Ls (.long y :: .long x :: st))) := own_st (fun _ hr => XS.lrem X.here hx rfl (hb hby hd) rfl hy (by rw [lrem_mod]; exact hr)) h
theorem own_ineg (X : Stand p l e R s m args below meth c T locs cells slots) (hx : p.tables.exec = Jvm.exec) (hby : c.code = code) {x : Int32} (hd : decode code pc = .ok (.ineg, 1))  (h : own_G p e below s Q k n (T.setTop (mkF m (pc + 1) Ls (.int (-x) :: st)))) : own_G p e below s Q k n (T.setTop (mkF m pc Ls (.int x :: st))) := own_st (fun _ => XS.ineg X.here hx rfl (hb hby hd) rfl) h
theorem own_lneg (X : Stand p l e R s m args below meth c T locs cells slots) (hx : p.tables.exec = Jvm.exec) (hby : c.code = code) {x : Int64} (hd : decode code pc = .ok (.lneg, 1))  (h : own_G p e below s Q k n (T.setTop (mkF m (pc + 1) Ls (.long (-x) :: st)))) : own_G p e below s Q k n (T.setTop (mkF m pc Ls (.long x :: st))) := own_st (fun _ => XS.lneg X.here hx rfl (hb hby hd) rfl) h
theorem own_i2l (X : Stand p l e R s m args below meth c T locs cells slots) (hx : p.tables.exec = Jvm.exec) (hby : c.code = code) {x : Int32} (hd : decode code pc = .ok (.i2l, 1))  (h : own_G p e below s Q k n (T.setTop (mkF m (pc + 1) Ls (.long (x.toInt64) :: st)))) : own_G p e below s Q k n (T.setTop (mkF m pc Ls (.int x :: st))) := own_st (fun _ => XS.i2l X.here hx rfl (hb hby hd) rfl) h
theorem own_l2i (X : Stand p l e R s m args below meth c T locs cells slots) (hx : p.tables.exec = Jvm.exec) (hby : c.code = code) {x : Int64} (hd : decode code pc = .ok (.l2i, 1))  (h : own_G p e below s Q k n (T.setTop (mkF m (pc + 1) Ls (.int (x.toInt32) :: st)))) : own_G p e below s Q k n (T.setTop (mkF m pc Ls (.long x :: st))) := own_st (fun _ => XS.l2i X.here hx rfl (hb hby hd) rfl) h
theorem own_i2b (X : Stand p l e R s m args below meth c T locs cells slots) (hx : p.tables.exec = Jvm.exec) (hby : c.code = code) {x : Int32} (hd : decode code pc = .ok (.i2b, 1))  (h : own_G p e below s Q k n (T.setTop (mkF m (pc + 1) Ls (.int (x.toInt8.toInt32) :: st)))) : own_G p e below s Q k n (T.setTop (mkF m pc Ls (.int x :: st))) := own_st (fun _ => XS.i2b X.here hx rfl (hb hby hd) rfl) h
theorem own_i2s (X : Stand p l e R s m args below meth c T locs cells slots) (hx : p.tables.exec = Jvm.exec) (hby : c.code = code) {x : Int32} (hd : decode code pc = .ok (.i2s, 1))  (h : own_G p e below s Q k n (T.setTop (mkF m (pc + 1) Ls (.int (x.toInt16.toInt32) :: st)))) : own_G p e below s Q k n (T.setTop (mkF m pc Ls (.int x :: st))) := own_st (fun _ => XS.i2s X.here hx rfl (hb hby hd) rfl) h
theorem own_i2c (X : Stand p l e R s m args below meth c T locs cells slots) (hx : p.tables.exec = Jvm.exec) (hby : c.code = code) {x : Int32} (hd : decode code pc = .ok (.i2c, 1))  (h : own_G p e below s Q k n (T.setTop (mkF m (pc + 1) Ls (.int (x.toUInt32.toUInt16.toUInt32.toInt32) :: st)))) : own_G p e below s Q k n (T.setTop (mkF m pc Ls (.int x :: st))) := own_st (fun _ => XS.i2c X.here hx rfl (hb hby hd) rfl) h
theorem own_dup (X : Stand p l e R s m args below meth c T locs cells slots) (hx : p.tables.exec = Jvm.exec) (hby : c.code = code) {v : Value} (hd : decode code pc = .ok (.dup, 1)) (hc : v.category = 1) (h : own_G p e below s Q k n (T.setTop (mkF m (pc + 1) Ls (v :: v :: st)))) : own_G p e below s Q k n (T.setTop (mkF m pc Ls (v :: st))) := own_st (fun _ => XS.dup X.here hx rfl (hb hby hd) rfl hc) h
theorem own_dup_x1 (X : Stand p l e R s m args below meth c T locs cells slots) (hx : p.tables.exec = Jvm.exec) (hby : c.code = code) {v w : Value} (hd : decode code pc = .ok (.dup_x1, 1)) (hc : v.category = 1) (hc' : w.category = 1) (h : own_G p e below s Q k n (T.setTop (mkF m (pc + 1) Ls (v :: w :: v :: st)))) : own_G p e below s Q k n (T.setTop (mkF m pc Ls (v :: w :: st))) := own_st (fun _ => XS.dupX1 X.here hx rfl (hb hby hd) rfl hc hc') h
theorem own_dup2 (X : Stand p l e R s m args below meth c T locs cells slots) (hx : p.tables.exec = Jvm.exec) (hby : c.code = code) {v w : Value} (hd : decode code pc = .ok (.dup2, 1)) (hc : v.category = 1) (hc' : w.category = 1) (h : own_G p e below s Q k n (T.setTop (mkF m (pc + 1) Ls (v :: w :: v :: w :: st)))) : own_G p e below s Q k n (T.setTop (mkF m pc Ls (v :: w :: st))) := own_st (fun _ => Jvm.Free.XT.dup2 X.here hx rfl (hb hby hd) rfl hc hc') h
theorem own_dup2L (X : Stand p l e R s m args below meth c T locs cells slots) (hx : p.tables.exec = Jvm.exec) (hby : c.code = code) {v : Int64} (hd : decode code pc = .ok (.dup2, 1))  (h : own_G p e below s Q k n (T.setTop (mkF m (pc + 1) Ls (.long v :: .long v :: st)))) : own_G p e below s Q k n (T.setTop (mkF m pc Ls (.long v :: st))) := own_st (fun _ => Jvm.Free.XT.dup2L X.here hx rfl (hb hby hd) rfl) h
theorem own_pop (X : Stand p l e R s m args below meth c T locs cells slots) (hx : p.tables.exec = Jvm.exec) (hby : c.code = code) {v : Value} (hd : decode code pc = .ok (.pop, 1)) (hc : v.category = 1) (h : own_G p e below s Q k n (T.setTop (mkF m (pc + 1) Ls st))) : own_G p e below s Q k n (T.setTop (mkF m pc Ls (v :: st))) := own_st (fun _ => XS.pop X.here hx rfl (hb hby hd) rfl hc) h
theorem own_iinc (X : Stand p l e R s m args below meth c T locs cells slots) (hx : p.tables.exec = Jvm.exec) (hby : c.code = code) {kk : Nat} {cst : Int} {x : Int32} {l' : Array Slot} (hd : decode code pc = .ok (.iinc kk cst, 3)) (hl : Ls[kk]? = some (.val (.int x))) (hl' : storeLocals Ls kk (.int (x + Int32.ofInt cst)) = some l') (h : own_G p e below s Q k n (T.setTop (mkF m (pc + 3) l' st))) : own_G p e below s Q k n (T.setTop (mkF m pc Ls st)) := own_st (fun _ => XS.iinc X.here hx rfl (hb hby hd) hl hl') h
theorem own_goto (X : Stand p l e R s m args below meth c T locs cells slots) (hx : p.tables.exec = Jvm.exec) (hby : c.code = code) {o : Int} {pc' : Nat} (hd : decode code pc = .ok (.goto o, 3)) (ho : 0 ≤ (pc : Int) + o) (hp : ((pc : Int) + o).toNat = pc') (h : own_G p e below s Q k n (T.setTop (mkF m pc' Ls st))) : own_G p e below s Q k n (T.setTop (mkF m pc Ls st)) := own_st (fun _ => XS.goto X.here hx rfl rfl (hb hby hd) ho hp) h
theorem own_icmp_eq (X : Stand p l e R s m args below meth c T locs cells slots) (hx : p.tables.exec = Jvm.exec) (hby : c.code = code) {x y : Int32} {o : Int} {pc' : Nat} (hd : decode code pc = .ok (.if_icmp .eq o, 3)) (ho : 0 ≤ (pc : Int) + o) (hp : ((pc : Int) + o).toNat = pc') (hY : x = y → own_G p e below s Q k n (T.setTop (mkF m pc' Ls st))) (hN : ¬ x = y → own_G p e below s Q k n (T.setTop (mkF m (pc + 3) Ls st))) : own_G p e below s Q k n (T.setTop (mkF m pc Ls (.int y :: .int x :: st))) := by
  by_cases q : x = y
  · exact own_st (fun _ => XS.icmpYes X.here hx rfl rfl (hb hby hd) rfl (teq q).1 ho hp) (hY q)
  · exact own_st (fun _ => XS.icmpNo X.here hx rfl (hb hby hd) rfl (feq q).1) (hN q)
theorem own_if_eq (X : Stand p l e R s m args below meth c T locs cells slots) (hx : p.tables.exec = Jvm.exec) (hby : c.code = code) {x : Int32} {o : Int} {pc' : Nat} (hd : decode code pc = .ok (.ifCond .eq o, 3)) (ho : 0 ≤ (pc : Int) + o) (hp : ((pc : Int) + o).toNat = pc') (hY : x = 0 → own_G p e below s Q k n (T.setTop (mkF m pc' Ls st))) (hN : ¬ x = 0 → own_G p e below s Q k n (T.setTop (mkF m (pc + 3) Ls st))) : own_G p e below s Q k n (T.setTop (mkF m pc Ls (.int x :: st))) := by
  by_cases q : x = 0
  · exact own_st (fun _ => XS.ifYes X.here hx rfl rfl (hb hby hd) rfl ((if0 _ _).trans (teq q).1) ho hp) (hY q)
  · exact own_st (fun _ => XS.ifNo X.here hx rfl (hb hby hd) rfl ((if0 _ _).trans (feq q).1)) (hN q)
theorem own_lcmp_eq (X : Stand p l e R s m args below meth c T locs cells slots) (hx : p.tables.exec = Jvm.exec) (hby : c.code = code) {x y : Int64} {o : Int} {pc' : Nat} (hd : decode code pc = .ok (.lcmp, 1)) (hd2 : decode code (pc + 1) = .ok (.ifCond .eq o, 3)) (ho : 0 ≤ ((pc + 1 : Nat) : Int) + o) (hp : (((pc + 1 : Nat) : Int) + o).toNat = pc') (hY : x = y → own_G p e below s Q k n (T.setTop (mkF m pc' Ls st))) (hN : ¬ x = y → own_G p e below s Q k n (T.setTop (mkF m (pc + 4) Ls st))) : own_G p e below s Q k n (T.setTop (mkF m pc Ls (.long y :: .long x :: st))) := by
  refine own_st (fun _ => XS.lcmp X.here hx rfl (hb hby hd) rfl) ?_
  exact own_if_eq (x := lcmpW x y) X hx hby hd2 ho hp (fun q => hY ((lw_eq x y).mp q)) (fun q => hN (fun z => q ((lw_eq x y).mpr z)))
theorem own_icmp_ne (X : Stand p l e R s m args below meth c T locs cells slots) (hx : p.tables.exec = Jvm.exec) (hby : c.code = code) {x y : Int32} {o : Int} {pc' : Nat} (hd : decode code pc = .ok (.if_icmp .ne o, 3)) (ho : 0 ≤ (pc : Int) + o) (hp : ((pc : Int) + o).toNat = pc') (hY : ¬ x = y → own_G p e below s Q k n (T.setTop (mkF m pc' Ls st))) (hN : x = y → own_G p e below s Q k n (T.setTop (mkF m (pc + 3) Ls st))) : own_G p e below s Q k n (T.setTop (mkF m pc Ls (.int y :: .int x :: st))) := by
  by_cases q : x = y
  · exact own_st (fun _ => XS.icmpNo X.here hx rfl (hb hby hd) rfl (teq q).2) (hN q)
  · exact own_st (fun _ => XS.icmpYes X.here hx rfl rfl (hb hby hd) rfl (feq q).2 ho hp) (hY q)
theorem own_if_ne (X : Stand p l e R s m args below meth c T locs cells slots) (hx : p.tables.exec = Jvm.exec) (hby : c.code = code) {x : Int32} {o : Int} {pc' : Nat} (hd : decode code pc = .ok (.ifCond .ne o, 3)) (ho : 0 ≤ (pc : Int) + o) (hp : ((pc : Int) + o).toNat = pc') (hY : ¬ x = 0 → own_G p e below s Q k n (T.setTop (mkF m pc' Ls st))) (hN : x = 0 → own_G p e below s Q k n (T.setTop (mkF m (pc + 3) Ls st))) : own_G p e below s Q k n (T.setTop (mkF m pc Ls (.int x :: st))) := by
  by_cases q : x = 0
  · exact own_st (fun _ => XS.ifNo X.here hx rfl (hb hby hd) rfl ((if0 _ _).trans (teq q).2)) (hN q)
  · exact own_st (fun _ => XS.ifYes X.here hx rfl rfl (hb hby hd) rfl ((if0 _ _).trans (feq q).2) ho hp) (hY q)
theorem own_lcmp_ne (X : Stand p l e R s m args below meth c T locs cells slots) (hx : p.tables.exec = Jvm.exec) (hby : c.code = code) {x y : Int64} {o : Int} {pc' : Nat} (hd : decode code pc = .ok (.lcmp, 1)) (hd2 : decode code (pc + 1) = .ok (.ifCond .ne o, 3)) (ho : 0 ≤ ((pc + 1 : Nat) : Int) + o) (hp : (((pc + 1 : Nat) : Int) + o).toNat = pc') (hY : ¬ x = y → own_G p e below s Q k n (T.setTop (mkF m pc' Ls st))) (hN : x = y → own_G p e below s Q k n (T.setTop (mkF m (pc + 4) Ls st))) : own_G p e below s Q k n (T.setTop (mkF m pc Ls (.long y :: .long x :: st))) := by
  refine own_st (fun _ => XS.lcmp X.here hx rfl (hb hby hd) rfl) ?_
  exact own_if_ne (x := lcmpW x y) X hx hby hd2 ho hp (fun q => hY (fun z => q ((lw_eq x y).mpr z))) (fun q => hN ((lw_eq x y).mp q))
theorem own_icmp_lt (X : Stand p l e R s m args below meth c T locs cells slots) (hx : p.tables.exec = Jvm.exec) (hby : c.code = code) {x y : Int32} {o : Int} {pc' : Nat} (hd : decode code pc = .ok (.if_icmp .lt o, 3)) (ho : 0 ≤ (pc : Int) + o) (hp : ((pc : Int) + o).toNat = pc') (hY : x < y → own_G p e below s Q k n (T.setTop (mkF m pc' Ls st))) (hN : ¬ x < y → own_G p e below s Q k n (T.setTop (mkF m (pc + 3) Ls st))) : own_G p e below s Q k n (T.setTop (mkF m pc Ls (.int y :: .int x :: st))) := by
  by_cases q : x < y
  · exact own_st (fun _ => XS.icmpYes X.here hx rfl rfl (hb hby hd) rfl (tlt q).1 ho hp) (hY q)
  · exact own_st (fun _ => XS.icmpNo X.here hx rfl (hb hby hd) rfl (flt q).1) (hN q)
theorem own_if_lt (X : Stand p l e R s m args below meth c T locs cells slots) (hx : p.tables.exec = Jvm.exec) (hby : c.code = code) {x : Int32} {o : Int} {pc' : Nat} (hd : decode code pc = .ok (.ifCond .lt o, 3)) (ho : 0 ≤ (pc : Int) + o) (hp : ((pc : Int) + o).toNat = pc') (hY : x < 0 → own_G p e below s Q k n (T.setTop (mkF m pc' Ls st))) (hN : ¬ x < 0 → own_G p e below s Q k n (T.setTop (mkF m (pc + 3) Ls st))) : own_G p e below s Q k n (T.setTop (mkF m pc Ls (.int x :: st))) := by
  by_cases q : x < 0
  · exact own_st (fun _ => XS.ifYes X.here hx rfl rfl (hb hby hd) rfl ((if0 _ _).trans (tlt q).1) ho hp) (hY q)
  · exact own_st (fun _ => XS.ifNo X.here hx rfl (hb hby hd) rfl ((if0 _ _).trans (flt q).1)) (hN q)
theorem own_lcmp_lt (X : Stand p l e R s m args below meth c T locs cells slots) (hx : p.tables.exec = Jvm.exec) (hby : c.code = code) {x y : Int64} {o : Int} {pc' : Nat} (hd : decode code pc = .ok (.lcmp, 1)) (hd2 : decode code (pc + 1) = .ok (.ifCond .lt o, 3)) (ho : 0 ≤ ((pc + 1 : Nat) : Int) + o) (hp : (((pc + 1 : Nat) : Int) + o).toNat = pc') (hY : x < y → own_G p e below s Q k n (T.setTop (mkF m pc' Ls st))) (hN : ¬ x < y → own_G p e below s Q k n (T.setTop (mkF m (pc + 4) Ls st))) : own_G p e below s Q k n (T.setTop (mkF m pc Ls (.long y :: .long x :: st))) := by
  refine own_st (fun _ => XS.lcmp X.here hx rfl (hb hby hd) rfl) ?_
  exact own_if_lt (x := lcmpW x y) X hx hby hd2 ho hp (fun q => hY ((lw_lt x y).mp q)) (fun q => hN (fun z => q ((lw_lt x y).mpr z)))
theorem own_icmp_ge (X : Stand p l e R s m args below meth c T locs cells slots) (hx : p.tables.exec = Jvm.exec) (hby : c.code = code) {x y : Int32} {o : Int} {pc' : Nat} (hd : decode code pc = .ok (.if_icmp .ge o, 3)) (ho : 0 ≤ (pc : Int) + o) (hp : ((pc : Int) + o).toNat = pc') (hY : ¬ x < y → own_G p e below s Q k n (T.setTop (mkF m pc' Ls st))) (hN : x < y → own_G p e below s Q k n (T.setTop (mkF m (pc + 3) Ls st))) : own_G p e below s Q k n (T.setTop (mkF m pc Ls (.int y :: .int x :: st))) := by
  by_cases q : x < y
  · exact own_st (fun _ => XS.icmpNo X.here hx rfl (hb hby hd) rfl (tlt q).2.1) (hN q)
  · exact own_st (fun _ => XS.icmpYes X.here hx rfl rfl (hb hby hd) rfl (flt q).2.1 ho hp) (hY q)
theorem own_if_ge (X : Stand p l e R s m args below meth c T locs cells slots) (hx : p.tables.exec = Jvm.exec) (hby : c.code = code) {x : Int32} {o : Int} {pc' : Nat} (hd : decode code pc = .ok (.ifCond .ge o, 3)) (ho : 0 ≤ (pc : Int) + o) (hp : ((pc : Int) + o).toNat = pc') (hY : ¬ x < 0 → own_G p e below s Q k n (T.setTop (mkF m pc' Ls st))) (hN : x < 0 → own_G p e below s Q k n (T.setTop (mkF m (pc + 3) Ls st))) : own_G p e below s Q k n (T.setTop (mkF m pc Ls (.int x :: st))) := by
  by_cases q : x < 0
  · exact own_st (fun _ => XS.ifNo X.here hx rfl (hb hby hd) rfl ((if0 _ _).trans (tlt q).2.1)) (hN q)
  · exact own_st (fun _ => XS.ifYes X.here hx rfl rfl (hb hby hd) rfl ((if0 _ _).trans (flt q).2.1) ho hp) (hY q)
theorem own_lcmp_ge (X : Stand p l e R s m args below meth c T locs cells slots) (hx : p.tables.exec = Jvm.exec) (hby : c.code = code) {x y : Int64} {o : Int} {pc' : Nat} (hd : decode code pc = .ok (.lcmp, 1)) (hd2 : decode code (pc + 1) = .ok (.ifCond .ge o, 3)) (ho : 0 ≤ ((pc + 1 : Nat) : Int) + o) (hp : (((pc + 1 : Nat) : Int) + o).toNat = pc') (hY : ¬ x < y → own_G p e below s Q k n (T.setTop (mkF m pc' Ls st))) (hN : x < y → own_G p e below s Q k n (T.setTop (mkF m (pc + 4) Ls st))) : own_G p e below s Q k n (T.setTop (mkF m pc Ls (.long y :: .long x :: st))) := by
  refine own_st (fun _ => XS.lcmp X.here hx rfl (hb hby hd) rfl) ?_
  exact own_if_ge (x := lcmpW x y) X hx hby hd2 ho hp (fun q => hY (fun z => q ((lw_lt x y).mpr z))) (fun q => hN ((lw_lt x y).mp q))
theorem own_icmp_gt (X : Stand p l e R s m args below meth c T locs cells slots) (hx : p.tables.exec = Jvm.exec) (hby : c.code = code) {x y : Int32} {o : Int} {pc' : Nat} (hd : decode code pc = .ok (.if_icmp .gt o, 3)) (ho : 0 ≤ (pc : Int) + o) (hp : ((pc : Int) + o).toNat = pc') (hY : y < x → own_G p e below s Q k n (T.setTop (mkF m pc' Ls st))) (hN : ¬ y < x → own_G p e below s Q k n (T.setTop (mkF m (pc + 3) Ls st))) : own_G p e below s Q k n (T.setTop (mkF m pc Ls (.int y :: .int x :: st))) := by
  by_cases q : y < x
  · exact own_st (fun _ => XS.icmpYes X.here hx rfl rfl (hb hby hd) rfl (tlt q).2.2.1 ho hp) (hY q)
  · exact own_st (fun _ => XS.icmpNo X.here hx rfl (hb hby hd) rfl (flt q).2.2.1) (hN q)
theorem own_if_gt (X : Stand p l e R s m args below meth c T locs cells slots) (hx : p.tables.exec = Jvm.exec) (hby : c.code = code) {x : Int32} {o : Int} {pc' : Nat} (hd : decode code pc = .ok (.ifCond .gt o, 3)) (ho : 0 ≤ (pc : Int) + o) (hp : ((pc : Int) + o).toNat = pc') (hY : 0 < x → own_G p e below s Q k n (T.setTop (mkF m pc' Ls st))) (hN : ¬ 0 < x → own_G p e below s Q k n (T.setTop (mkF m (pc + 3) Ls st))) : own_G p e below s Q k n (T.setTop (mkF m pc Ls (.int x :: st))) := by
  by_cases q : 0 < x
  · exact own_st (fun _ => XS.ifYes X.here hx rfl rfl (hb hby hd) rfl ((if0 _ _).trans (tlt q).2.2.1) ho hp) (hY q)
  · exact own_st (fun _ => XS.ifNo X.here hx rfl (hb hby hd) rfl ((if0 _ _).trans (flt q).2.2.1)) (hN q)
theorem own_lcmp_gt (X : Stand p l e R s m args below meth c T locs cells slots) (hx : p.tables.exec = Jvm.exec) (hby : c.code = code) {x y : Int64} {o : Int} {pc' : Nat} (hd : decode code pc = .ok (.lcmp, 1)) (hd2 : decode code (pc + 1) = .ok (.ifCond .gt o, 3)) (ho : 0 ≤ ((pc + 1 : Nat) : Int) + o) (hp : (((pc + 1 : Nat) : Int) + o).toNat = pc') (hY : y < x → own_G p e below s Q k n (T.setTop (mkF m pc' Ls st))) (hN : ¬ y < x → own_G p e below s Q k n (T.setTop (mkF m (pc + 4) Ls st))) : own_G p e below s Q k n (T.setTop (mkF m pc Ls (.long y :: .long x :: st))) := by
  refine own_st (fun _ => XS.lcmp X.here hx rfl (hb hby hd) rfl) ?_
  exact own_if_gt (x := lcmpW x y) X hx hby hd2 ho hp (fun q => hY ((lw_gt x y).mp q)) (fun q => hN (fun z => q ((lw_gt x y).mpr z)))
theorem own_icmp_le (X : Stand p l e R s m args below meth c T locs cells slots) (hx : p.tables.exec = Jvm.exec) (hby : c.code = code) {x y : Int32} {o : Int} {pc' : Nat} (hd : decode code pc = .ok (.if_icmp .le o, 3)) (ho : 0 ≤ (pc : Int) + o) (hp : ((pc : Int) + o).toNat = pc') (hY : ¬ y < x → own_G p e below s Q k n (T.setTop (mkF m pc' Ls st))) (hN : y < x → own_G p e below s Q k n (T.setTop (mkF m (pc + 3) Ls st))) : own_G p e below s Q k n (T.setTop (mkF m pc Ls (.int y :: .int x :: st))) := by
  by_cases q : y < x
  · exact own_st (fun _ => XS.icmpNo X.here hx rfl (hb hby hd) rfl (tlt q).2.2.2) (hN q)
  · exact own_st (fun _ => XS.icmpYes X.here hx rfl rfl (hb hby hd) rfl (flt q).2.2.2 ho hp) (hY q)
theorem own_if_le (X : Stand p l e R s m args below meth c T locs cells slots) (hx : p.tables.exec = Jvm.exec) (hby : c.code = code) {x : Int32} {o : Int} {pc' : Nat} (hd : decode code pc = .ok (.ifCond .le o, 3)) (ho : 0 ≤ (pc : Int) + o) (hp : ((pc : Int) + o).toNat = pc') (hY : ¬ 0 < x → own_G p e below s Q k n (T.setTop (mkF m pc' Ls st))) (hN : 0 < x → own_G p e below s Q k n (T.setTop (mkF m (pc + 3) Ls st))) : own_G p e below s Q k n (T.setTop (mkF m pc Ls (.int x :: st))) := by
  by_cases q : 0 < x
  · exact own_st (fun _ => XS.ifNo X.here hx rfl (hb hby hd) rfl ((if0 _ _).trans (tlt q).2.2.2)) (hN q)
  · exact own_st (fun _ => XS.ifYes X.here hx rfl rfl (hb hby hd) rfl ((if0 _ _).trans (flt q).2.2.2) ho hp) (hY q)
theorem own_lcmp_le (X : Stand p l e R s m args below meth c T locs cells slots) (hx : p.tables.exec = Jvm.exec) (hby : c.code = code) {x y : Int64} {o : Int} {pc' : Nat} (hd : decode code pc = .ok (.lcmp, 1)) (hd2 : decode code (pc + 1) = .ok (.ifCond .le o, 3)) (ho : 0 ≤ ((pc + 1 : Nat) : Int) + o) (hp : (((pc + 1 : Nat) : Int) + o).toNat = pc') (hY : ¬ y < x → own_G p e below s Q k n (T.setTop (mkF m pc' Ls st))) (hN : y < x → own_G p e below s Q k n (T.setTop (mkF m (pc + 4) Ls st))) : own_G p e below s Q k n (T.setTop (mkF m pc Ls (.long y :: .long x :: st))) := by
  refine own_st (fun _ => XS.lcmp X.here hx rfl (hb hby hd) rfl) ?_
  exact own_if_le (x := lcmpW x y) X hx hby hd2 ho hp (fun q => hY (fun z => q ((lw_gt x y).mpr z))) (fun q => hN ((lw_gt x y).mp q))
theorem own_acmp_eq (X : Stand p l e R s m args below meth c T locs cells slots) (hx : p.tables.exec = Jvm.exec) (hby : c.code = code) {x y : Value} {o : Int} {pc' : Nat} (hx1 : x.isRef = true) (hy1 : y.isRef = true) (hd : decode code pc = .ok (.if_acmp .eq o, 3)) (ho : 0 ≤ (pc : Int) + o) (hp : ((pc : Int) + o).toNat = pc') (hY : x = y → own_G p e below s Q k n (T.setTop (mkF m pc' Ls st))) (hN : ¬ x = y → own_G p e below s Q k n (T.setTop (mkF m (pc + 3) Ls st))) : own_G p e below s Q k n (T.setTop (mkF m pc Ls (y :: x :: st))) := by
  by_cases q : x = y
  · exact own_st (fun _ => Jvm.Free.XT.acmpYes X.here hx rfl rfl (hb hby hd) rfl hx1 hy1 (decide_eq_true q) ho hp) (hY q)
  · exact own_st (fun _ => Jvm.Free.XT.acmpNo X.here hx rfl (hb hby hd) rfl hx1 hy1 (decide_eq_false q)) (hN q)
theorem own_acmp_ne (X : Stand p l e R s m args below meth c T locs cells slots) (hx : p.tables.exec = Jvm.exec) (hby : c.code = code) {x y : Value} {o : Int} {pc' : Nat} (hx1 : x.isRef = true) (hy1 : y.isRef = true) (hd : decode code pc = .ok (.if_acmp .ne o, 3)) (ho : 0 ≤ (pc : Int) + o) (hp : ((pc : Int) + o).toNat = pc') (hY : ¬ x = y → own_G p e below s Q k n (T.setTop (mkF m pc' Ls st))) (hN : x = y → own_G p e below s Q k n (T.setTop (mkF m (pc + 3) Ls st))) : own_G p e below s Q k n (T.setTop (mkF m pc Ls (y :: x :: st))) := by
  by_cases q : x = y
  · exact own_st (fun _ => Jvm.Free.XT.acmpNo X.here hx rfl (hb hby hd) rfl hx1 hy1 (decide_eq_false (fun z => z q))) (hN q)
  · exact own_st (fun _ => Jvm.Free.XT.acmpYes X.here hx rfl rfl (hb hby hd) rfl hx1 hy1 (decide_eq_true q) ho hp) (hY q)
theorem own_ifnullY (X : Stand p l e R s m args below meth c T locs cells slots) (hx : p.tables.exec = Jvm.exec) (hby : c.code = code) {o : Int} {pc' : Nat} (hd : decode code pc = .ok (.ifnull o, 3)) (ho : 0 ≤ (pc : Int) + o) (hp : ((pc : Int) + o).toNat = pc') (h : own_G p e below s Q k n (T.setTop (mkF m pc' Ls st))) : own_G p e below s Q k n (T.setTop (mkF m pc Ls (.null :: st))) := own_st (fun _ => XS.ifnullYes X.here hx rfl rfl (hb hby hd) rfl ho hp) h
theorem own_ifnullN (X : Stand p l e R s m args below meth c T locs cells slots) (hx : p.tables.exec = Jvm.exec) (hby : c.code = code) {o : Int} {b : Addr} (hd : decode code pc = .ok (.ifnull o, 3)) (h : own_G p e below s Q k n (T.setTop (mkF m (pc + 3) Ls st))) : own_G p e below s Q k n (T.setTop (mkF m pc Ls (.ref b :: st))) := own_st (fun _ => XS.ifnullNo X.here hx rfl (hb hby hd) rfl) h
theorem own_ifnonnullY (X : Stand p l e R s m args below meth c T locs cells slots) (hx : p.tables.exec = Jvm.exec) (hby : c.code = code) {o : Int} {b : Addr} {pc' : Nat} (hd : decode code pc = .ok (.ifnonnull o, 3)) (ho : 0 ≤ (pc : Int) + o) (hp : ((pc : Int) + o).toNat = pc') (h : own_G p e below s Q k n (T.setTop (mkF m pc' Ls st))) : own_G p e below s Q k n (T.setTop (mkF m pc Ls (.ref b :: st))) := own_st (fun _ => XS.ifnonnullYes X.here hx rfl rfl (hb hby hd) rfl ho hp) h
theorem own_ifnonnullN (X : Stand p l e R s m args below meth c T locs cells slots) (hx : p.tables.exec = Jvm.exec) (hby : c.code = code) {o : Int} (hd : decode code pc = .ok (.ifnonnull o, 3)) (h : own_G p e below s Q k n (T.setTop (mkF m (pc + 3) Ls st))) : own_G p e below s Q k n (T.setTop (mkF m pc Ls (.null :: st))) := own_st (fun _ => XS.ifnonnullNo X.here hx rfl (hb hby hd) rfl) h
theorem own_tswIn (X : Stand p l e R s m args below meth c T locs cells slots) (hx : p.tables.exec = Jvm.exec) (hby : c.code = code) {dflt low high : Int} {offs : Array Int} {len : Nat} {o : Int} {pc' : Nat} {i : Int32} (hd : decode code pc = .ok (.tableswitch dflt low high offs, len)) (hin : ¬ (i.toInt < low ∨ i.toInt > high)) (hoff : offs[(i.toInt - low).toNat]? = some o) (ho : 0 ≤ (pc : Int) + o) (hp : ((pc : Int) + o).toNat = pc') (h : own_G p e below s Q k n (T.setTop (mkF m pc' Ls st))) : own_G p e below s Q k n (T.setTop (mkF m pc Ls (.int i :: st))) := own_st (fun _ => XS.tswIn (g := mkF m pc Ls (.int i :: st)) (pc0 := pc) X.here hx rfl rfl (hb hby hd) rfl hin hoff ho hp) h
theorem own_ldcI (X : Stand p l e R s m args below meth c T locs cells slots) (hx : p.tables.exec = Jvm.exec) (hby : c.code = code) (hZ : Z.Warmed39 s.vm) {own : String} {i : Nat} {v : Int32} (hown : s.vm.findClass own = some m.cls) (w : (Cond.constant own i v).before a0 Z = true) (hd : decode code pc = .ok (.ldc i, 2)) (h : own_G p e below s Q k n (T.setTop (mkF m (pc + 2) Ls (.int v :: st)))) : own_G p e below s Q k n (T.setTop (mkF m pc Ls st)) := own_st (X.ldcInt hx hown (mvT hZ w) rfl (hb hby hd)) h
theorem own_ldcJ (X : Stand p l e R s m args below meth c T locs cells slots) (hx : p.tables.exec = Jvm.exec) (hby : c.code = code) (hZ : Z.Warmed39 s.vm) {own : String} {i : Nat} {v : Int64} (hown : s.vm.findClass own = some m.cls) (w : (Cond.constantLong own i v).before a0 Z = true) (hd : decode code pc = .ok (.ldc2_w i, 3)) (h : own_G p e below s Q k n (T.setTop (mkF m (pc + 3) Ls (.long v :: st)))) : own_G p e below s Q k n (T.setTop (mkF m pc Ls st)) := own_st (X.ldc2Long hx hown (mvT hZ w) rfl (hb hby hd)) h
theorem own_instNull (X : Stand p l e R s m args below meth c T locs cells slots) (hx : p.tables.exec = Jvm.exec) (hby : c.code = code) {i : Nat} (hd : decode code pc = .ok (.instanceof i, 3)) (h : own_G p e below s Q k n (T.setTop (mkF m (pc + 3) Ls (.int 0 :: st)))) : own_G p e below s Q k n (T.setTop (mkF m pc Ls (.null :: st))) := own_st (X.instanceofNull hx rfl rfl (hb hby hd)) h
theorem own_castNull (X : Stand p l e R s m args below meth c T locs cells slots) (hx : p.tables.exec = Jvm.exec) (hby : c.code = code) {i : Nat} (hd : decode code pc = .ok (.checkcast i, 3)) (h : own_G p e below s Q k n (T.setTop (mkF m (pc + 3) Ls (.null :: st)))) : own_G p e below s Q k n (T.setTop (mkF m pc Ls (.null :: st))) := own_st (X.checkcastNull hx rfl rfl (hb hby hd)) h
def own_Ar (Z : State) (h : Heap) (a : Addr) (ty : FieldType) (n : Nat) (f : Nat → Value) : Prop := ∃ c : Cell, Arr Z h a c ty ∧ c.slots.size = n ∧ n < 2 ^ 31 ∧ ∀ j, j < n → c.slots[j]? = some (f j)
def own_set (f : Nat → Value) (j : Nat) (v : Value) : Nat → Value := fun i => if i = j then v else f i
theorem own_set_same (f : Nat → Value) (j : Nat) (v : Value) : own_set f j v j = v := if_pos rfl
theorem own_set_ne (f : Nat → Value) {i j : Nat} (v : Value) (q : i ≠ j) : own_set f j v i = f i := if_neg q
theorem own_Ar.lt {a : Addr} {ty : FieldType} {N : Nat} {f : Nat → Value} (F : own_Ar Z h a ty N f) : a < h.size := by obtain ⟨c, A, -⟩ := F; exact A.lt
theorem own_Ar.small {a : Addr} {ty : FieldType} {N : Nat} {f : Nat → Value} (F : own_Ar Z h a ty N f) : N < 2 ^ 31 := by obtain ⟨c, -, -, q, -⟩ := F; exact q
theorem own_Ar.ext {h' : Heap} {a : Addr} {ty : FieldType} {N : Nat} {f : Nat → Value} (F : own_Ar Z h a ty N f) (E : Ext h h') : own_Ar Z h' a ty N f := by obtain ⟨c, A, r⟩ := F; exact ⟨c, A.ext E, r⟩
theorem own_Ar.other {h' : Heap} {a b : Addr} {sl : Nat} {v : Value} {ty : FieldType} {N : Nat} {f : Nat → Value} (F : own_Ar Z h b ty N f) (W : Wr h h' a sl v) (q : b ≠ a) : own_Ar Z h' b ty N f := by obtain ⟨c, A, r⟩ := F; exact ⟨c, A.other W q, r⟩
theorem own_Ar.keep {h' : Heap} {a : Addr} {ws : List Addr} {ty : FieldType} {N : Nat} {f : Nat → Value} (F : own_Ar Z h a ty N f) (K : Keep h h' ws) (q : a ∉ ws) : own_Ar Z h' a ty N f := by obtain ⟨c, A, r⟩ := F; exact ⟨c, ⟨K.2.1 a c A.1 q, A.2⟩, r⟩
theorem own_Ar.fn {a : Addr} {ty : FieldType} {N : Nat} {f g : Nat → Value} (F : own_Ar Z h a ty N f) (q : ∀ j, j < N → f j = g j) : own_Ar Z h a ty N g := by obtain ⟨c, A, r1, r2, r3⟩ := F; exact ⟨c, A, r1, r2, fun j hj => by rw [r3 j hj, q j hj]⟩
theorem own_Ar.store {h' : Heap} {a : Addr} {c : Cell} {ty : FieldType} {N j : Nat} {f : Nat → Value} {v : Value} (A : Arr Z h a c ty) (r1 : c.slots.size = N) (r2 : N < 2 ^ 31) (r3 : ∀ j, j < N → c.slots[j]? = some (f j)) (W : Wr h h' a j v) : own_Ar Z h' a ty N (own_set f j v) := by
  refine ⟨_, A.same W, by rw [sz_set]; exact r1, r2, fun i hi => ?_⟩
  by_cases e : i = j
  · subst e; rw [own_set_same]; simp [Cell.setSlot, r1, hi]
  · rw [own_set_ne _ _ e, ← r3 i hi]; exact Array.getElem?_setIfInBounds_ne (fun q => e q.symm)
theorem own_Ar.new {a : Addr} {ty : FieldType} {kc : ClassId} {z : Int32} (A : Arr Z h a (newA kc ty z) ty) (q : ¬ z < 0) : own_Ar Z h a ty z.toNatClampNeg (fun _ => defaultValue ty) :=
  ⟨_, A, sz_new _ _ _, (back32 q).2, fun j hj => by simp [newA, hj]⟩
theorem own_inb {N : Nat} {j : Int32} {i : Nat} (hj : j.toInt = i) (hi : i < N) : ¬ (j < 0 ∨ N ≤ j.toNatClampNeg) ∧ j.toNatClampNeg = i := by
  have q : j.toNatClampNeg = i := by simp only [Int32.toNatClampNeg, hj]; omega
  refine ⟨?_, q⟩
  rw [q]; simp only [Int32.lt_iff_toInt_lt, hj, Int32.reduceToInt]; omega
def own_Ov (Z : State) (h : Heap) (a : Addr) (C : String) : Prop := ∃ cell : Cell, h[a]? = some cell ∧ Ovr Z cell.cls C
theorem own_Ov.ext {h' : Heap} {a : Addr} {C : String} (F : own_Ov Z h a C) (E : Ext h h') : own_Ov Z h' a C := by obtain ⟨c, h1, h2⟩ := F; exact ⟨c, E.2 _ _ h1, h2⟩
theorem own_Ov.wr {h' : Heap} {a b : Addr} {sl : Nat} {v : Value} {C : String} (F : own_Ov Z h a C) (W : Wr h h' b sl v) : own_Ov Z h' a C := by obtain ⟨c, h1, h2⟩ := F; obtain ⟨c', e1, e2, -⟩ := wr_at W h1; exact ⟨c', e1, by rw [e2]; exact h2⟩
theorem own_Ov.keep {h' : Heap} {a : Addr} {ws : List Addr} {C : String} (F : own_Ov Z h a C) (K : Keep h h' ws) : own_Ov Z h' a C := by obtain ⟨c, h1, h2⟩ := F; obtain ⟨c', e1, e2, -⟩ := K.2.2 _ _ h1; exact ⟨c', e1, by rw [e2]; exact h2⟩
theorem own_sto {a y : Addr} {ty : FieldType} {N : Nat} {f : Nat → Value} {C : String} (F : own_Ar Z h a ty N f) (V : own_Ov Z h a C) (I : Ins Z h y C true) : Sto Z h a (.ref y) := by
  obtain ⟨c, A, -⟩ := F; obtain ⟨c', h1, h2⟩ := V; cases A.1.symm.trans h1; exact Sto.of A h2 I
theorem own_alen (X : Stand p l e R s m args below meth c T locs cells slots) (hx : p.tables.exec = Jvm.exec) (hby : c.code = code) (hZ : Z.Warmed39 s.vm) (eT : T.heap = h) {a : Addr} {ty : FieldType} {N : Nat} {f : Nat → Value} (F : own_Ar Z h a ty N f) (hd : decode code pc = .ok (.arraylength, 1)) (h2 : own_G p e below s Q k n (T.setTop (mkF m (pc + 1) Ls (.int N.toInt32 :: st)))) : own_G p e below s Q k n (T.setTop (mkF m pc Ls (.ref a :: st))) := by
  obtain ⟨cl, A, r1, r2, r3⟩ := F
  refine own_st (fun _ => X.arraylength hx (by rw [eT]; exact A.1) (State.isArrayOf_alike hZ.alike A.2.1) (g := mkF m pc Ls (.ref a :: st)) rfl rfl (hb hby hd) _) ?_
  rw [r1]; exact h2
theorem own_iaload (X : Stand p l e R s m args below meth c T locs cells slots) (hx : p.tables.exec = Jvm.exec) (hby : c.code = code) (hZ : Z.Warmed39 s.vm) (eT : T.heap = h) {a : Addr} {N : Nat} {f : Nat → Value} (F : own_Ar Z h a .int N f) {j : Int32} {i : Nat} (hj : j.toInt = i) (hi : i < N) (hd : decode code pc = .ok (.iaload, 1)) (h2 : own_G p e below s Q k n (T.setTop (mkF m (pc + 1) Ls (f i :: st)))) : own_G p e below s Q k n (T.setTop (mkF m pc Ls (.int j :: .ref a :: st))) := by
  obtain ⟨cl, A, r1, r2, r3⟩ := F
  obtain ⟨q1, q2⟩ := own_inb hj hi
  exact own_st (fun _ => X.iaload hx (v := f i) (by rw [eT]; exact A.1) (State.isArrayOf_alike hZ.alike A.2.1) A.2.2 (j := j) (by rw [r1]; exact q1) (by rw [q2]; exact r3 i hi) (g := mkF m pc Ls (.int j :: .ref a :: st)) rfl rfl (hb hby hd) _) h2
theorem own_laload (X : Stand p l e R s m args below meth c T locs cells slots) (hx : p.tables.exec = Jvm.exec) (hby : c.code = code) (hZ : Z.Warmed39 s.vm) (eT : T.heap = h) {a : Addr} {N : Nat} {f : Nat → Value} (F : own_Ar Z h a .long N f) {j : Int32} {i : Nat} (hj : j.toInt = i) (hi : i < N) (hd : decode code pc = .ok (.laload, 1)) (h2 : own_G p e below s Q k n (T.setTop (mkF m (pc + 1) Ls (f i :: st)))) : own_G p e below s Q k n (T.setTop (mkF m pc Ls (.int j :: .ref a :: st))) := by
  obtain ⟨cl, A, r1, r2, r3⟩ := F
  obtain ⟨q1, q2⟩ := own_inb hj hi
  exact own_st (fun _ => X.laload hx (v := f i) (by rw [eT]; exact A.1) (State.isArrayOf_alike hZ.alike A.2.1) A.2.2 (j := j) (by rw [r1]; exact q1) (by rw [q2]; exact r3 i hi) (g := mkF m pc Ls (.int j :: .ref a :: st)) rfl rfl (hb hby hd) _) h2
theorem own_baload (X : Stand p l e R s m args below meth c T locs cells slots) (hx : p.tables.exec = Jvm.exec) (hby : c.code = code) (hZ : Z.Warmed39 s.vm) (eT : T.heap = h) {a : Addr} {N : Nat} {f : Nat → Value} (F : own_Ar Z h a .byte N f) {j : Int32} {i : Nat} (hj : j.toInt = i) (hi : i < N) (hd : decode code pc = .ok (.baload, 1)) (h2 : own_G p e below s Q k n (T.setTop (mkF m (pc + 1) Ls (f i :: st)))) : own_G p e below s Q k n (T.setTop (mkF m pc Ls (.int j :: .ref a :: st))) := by
  obtain ⟨cl, A, r1, r2, r3⟩ := F
  obtain ⟨q1, q2⟩ := own_inb hj hi
  exact own_st (fun _ => X.baloadBytes hx (v := f i) (by rw [eT]; exact A.1) (State.isArrayOf_alike hZ.alike A.2.1) A.2.2 (j := j) (by rw [r1]; exact q1) (by rw [q2]; exact r3 i hi) (g := mkF m pc Ls (.int j :: .ref a :: st)) rfl rfl (hb hby hd) _) h2
theorem own_caload (X : Stand p l e R s m args below meth c T locs cells slots) (hx : p.tables.exec = Jvm.exec) (hby : c.code = code) (hZ : Z.Warmed39 s.vm) (eT : T.heap = h) {a : Addr} {N : Nat} {f : Nat → Value} (F : own_Ar Z h a .char N f) {j : Int32} {i : Nat} (hj : j.toInt = i) (hi : i < N) (hd : decode code pc = .ok (.caload, 1)) (h2 : own_G p e below s Q k n (T.setTop (mkF m (pc + 1) Ls (f i :: st)))) : own_G p e below s Q k n (T.setTop (mkF m pc Ls (.int j :: .ref a :: st))) := by
  obtain ⟨cl, A, r1, r2, r3⟩ := F
  obtain ⟨q1, q2⟩ := own_inb hj hi
  exact own_st (fun _ => X.caload hx (v := f i) (by rw [eT]; exact A.1) (State.isArrayOf_alike hZ.alike A.2.1) A.2.2 (j := j) (by rw [r1]; exact q1) (by rw [q2]; exact r3 i hi) (g := mkF m pc Ls (.int j :: .ref a :: st)) rfl rfl (hb hby hd) _) h2
theorem own_aaload (X : Stand p l e R s m args below meth c T locs cells slots) (hx : p.tables.exec = Jvm.exec) (hby : c.code = code) (hZ : Z.Warmed39 s.vm) (eT : T.heap = h) {a : Addr} {ty : FieldType} {N : Nat} {f : Nat → Value} (F : own_Ar Z h a ty N f) (hty : ty.isReference = true) {j : Int32} {i : Nat} (hj : j.toInt = i) (hi : i < N) (hd : decode code pc = .ok (.aaload, 1)) (h2 : own_G p e below s Q k n (T.setTop (mkF m (pc + 1) Ls (f i :: st)))) : own_G p e below s Q k n (T.setTop (mkF m pc Ls (.int j :: .ref a :: st))) := by
  obtain ⟨cl, A, r1, r2, r3⟩ := F
  obtain ⟨q1, q2⟩ := own_inb hj hi
  exact own_st (fun _ => X.aaload hx (v := f i) (by rw [eT]; exact A.1) (State.isArrayOf_alike hZ.alike A.2.1) hty A.2.2 (j := j) (by rw [r1]; exact q1) (by rw [q2]; exact r3 i hi) (g := mkF m pc Ls (.int j :: .ref a :: st)) rfl rfl (hb hby hd) _) h2
theorem own_iastore (X : Stand p l e R s m args below meth c T locs cells slots) (hx : p.tables.exec = Jvm.exec) (hby : c.code = code) (hZ : Z.Warmed39 s.vm) (eT : T.heap = h) {a : Addr} {N : Nat} {f : Nat → Value} (F : own_Ar Z h a .int N f) {j : Int32} {i : Nat} (hj : j.toInt = i) (hi : i < N) {x : Int32} (hd : decode code pc = .ok (.iastore, 1)) : ∃ T' h', Stand p l e R s m args below meth c T' (locs ++ [⟨a, i⟩]) cells slots ∧ T'.heap = h' ∧ Wr h h' a i (.int x) ∧ own_Ar Z h' a .int N (own_set f i (.int x)) ∧ ∀ target, Steps p.tables e below (T'.setTop (mkF m (pc + 1) Ls st)) target → Steps p.tables e below (T.setTop (mkF m pc Ls (.int x :: .int j :: .ref a :: st))) target := by
  obtain ⟨cl, A, r1, r2, r3⟩ := F
  obtain ⟨q1, q2⟩ := own_inb hj hi
  obtain ⟨T', h', X', e', W, stp⟩ := stI X hx hZ eT A (j := j) (by rw [r1]; exact q1) (g := mkF m pc Ls (.int x :: .int j :: .ref a :: st)) rfl rfl (hb hby hd)
  rw [q2] at X' W
  exact ⟨T', h', X', e', W, own_Ar.store A r1 r2 r3 W, stp⟩
theorem own_lastore (X : Stand p l e R s m args below meth c T locs cells slots) (hx : p.tables.exec = Jvm.exec) (hby : c.code = code) (hZ : Z.Warmed39 s.vm) (eT : T.heap = h) {a : Addr} {N : Nat} {f : Nat → Value} (F : own_Ar Z h a .long N f) {j : Int32} {i : Nat} (hj : j.toInt = i) (hi : i < N) {x : Int64} (hd : decode code pc = .ok (.lastore, 1)) : ∃ T' h', Stand p l e R s m args below meth c T' (locs ++ [⟨a, i⟩]) cells slots ∧ T'.heap = h' ∧ Wr h h' a i (.long x) ∧ own_Ar Z h' a .long N (own_set f i (.long x)) ∧ ∀ target, Steps p.tables e below (T'.setTop (mkF m (pc + 1) Ls st)) target → Steps p.tables e below (T.setTop (mkF m pc Ls (.long x :: .int j :: .ref a :: st))) target := by
  obtain ⟨cl, A, r1, r2, r3⟩ := F
  obtain ⟨q1, q2⟩ := own_inb hj hi
  obtain ⟨T', h', X', e', W, stp⟩ := stJ X hx hZ eT A (j := j) (by rw [r1]; exact q1) (g := mkF m pc Ls (.long x :: .int j :: .ref a :: st)) rfl rfl (hb hby hd)
  rw [q2] at X' W
  exact ⟨T', h', X', e', W, own_Ar.store A r1 r2 r3 W, stp⟩
theorem own_bastore (X : Stand p l e R s m args below meth c T locs cells slots) (hx : p.tables.exec = Jvm.exec) (hby : c.code = code) (hZ : Z.Warmed39 s.vm) (eT : T.heap = h) {a : Addr} {N : Nat} {f : Nat → Value} (F : own_Ar Z h a .byte N f) {j : Int32} {i : Nat} (hj : j.toInt = i) (hi : i < N) {x : Int32} (hd : decode code pc = .ok (.bastore, 1)) : ∃ T' h', Stand p l e R s m args below meth c T' (locs ++ [⟨a, i⟩]) cells slots ∧ T'.heap = h' ∧ Wr h h' a i (.int (nar .byte x)) ∧ own_Ar Z h' a .byte N (own_set f i (.int (nar .byte x))) ∧ ∀ target, Steps p.tables e below (T'.setTop (mkF m (pc + 1) Ls st)) target → Steps p.tables e below (T.setTop (mkF m pc Ls (.int x :: .int j :: .ref a :: st))) target := by
  obtain ⟨cl, A, r1, r2, r3⟩ := F
  obtain ⟨q1, q2⟩ := own_inb hj hi
  obtain ⟨T', h', X', e', W, stp⟩ := stB X hx hZ eT A (j := j) (by rw [r1]; exact q1) (g := mkF m pc Ls (.int x :: .int j :: .ref a :: st)) rfl rfl (hb hby hd)
  rw [q2] at X' W
  exact ⟨T', h', X', e', W, own_Ar.store A r1 r2 r3 W, stp⟩
theorem own_castore (X : Stand p l e R s m args below meth c T locs cells slots) (hx : p.tables.exec = Jvm.exec) (hby : c.code = code) (hZ : Z.Warmed39 s.vm) (eT : T.heap = h) {a : Addr} {N : Nat} {f : Nat → Value} (F : own_Ar Z h a .char N f) {j : Int32} {i : Nat} (hj : j.toInt = i) (hi : i < N) {x : Int32} (hd : decode code pc = .ok (.castore, 1)) : ∃ T' h', Stand p l e R s m args below meth c T' (locs ++ [⟨a, i⟩]) cells slots ∧ T'.heap = h' ∧ Wr h h' a i (.int (nar .char x)) ∧ own_Ar Z h' a .char N (own_set f i (.int (nar .char x))) ∧ ∀ target, Steps p.tables e below (T'.setTop (mkF m (pc + 1) Ls st)) target → Steps p.tables e below (T.setTop (mkF m pc Ls (.int x :: .int j :: .ref a :: st))) target := by
  obtain ⟨cl, A, r1, r2, r3⟩ := F
  obtain ⟨q1, q2⟩ := own_inb hj hi
  obtain ⟨T', h', X', e', W, stp⟩ := stC X hx hZ eT A (j := j) (by rw [r1]; exact q1) (g := mkF m pc Ls (.int x :: .int j :: .ref a :: st)) rfl rfl (hb hby hd)
  rw [q2] at X' W
  exact ⟨T', h', X', e', W, own_Ar.store A r1 r2 r3 W, stp⟩
theorem own_dastore (X : Stand p l e R s m args below meth c T locs cells slots) (hx : p.tables.exec = Jvm.exec) (hby : c.code = code) (hZ : Z.Warmed39 s.vm) (eT : T.heap = h) {a : Addr} {N : Nat} {f : Nat → Value} (F : own_Ar Z h a .double N f) {j : Int32} {i : Nat} (hj : j.toInt = i) (hi : i < N) {x : UInt64} (hd : decode code pc = .ok (.dastore, 1)) : ∃ T' h', Stand p l e R s m args below meth c T' (locs ++ [⟨a, i⟩]) cells slots ∧ T'.heap = h' ∧ Wr h h' a i (.double x) ∧ own_Ar Z h' a .double N (own_set f i (.double x)) ∧ ∀ target, Steps p.tables e below (T'.setTop (mkF m (pc + 1) Ls st)) target → Steps p.tables e below (T.setTop (mkF m pc Ls (.double x :: .int j :: .ref a :: st))) target := by
  obtain ⟨cl, A, r1, r2, r3⟩ := F
  obtain ⟨q1, q2⟩ := own_inb hj hi
  obtain ⟨T', h', X', e', W, stp⟩ := stD X hx hZ eT A (j := j) (by rw [r1]; exact q1) (g := mkF m pc Ls (.double x :: .int j :: .ref a :: st)) rfl rfl (hb hby hd)
  rw [q2] at X' W
  exact ⟨T', h', X', e', W, own_Ar.store A r1 r2 r3 W, stp⟩
theorem own_aastore (X : Stand p l e R s m args below meth c T locs cells slots) (hx : p.tables.exec = Jvm.exec) (hby : c.code = code) (hZ : Z.Warmed39 s.vm) (eT : T.heap = h) {a : Addr} {ty : FieldType} {N : Nat} {f : Nat → Value} (F : own_Ar Z h a ty N f) (hty : ty.isReference = true) {j : Int32} {i : Nat} (hj : j.toInt = i) (hi : i < N) {v : Value} (S : Sto Z h a v) (hd : decode code pc = .ok (.aastore, 1)) : ∃ T' h', Stand p l e R s m args below meth c T' (locs ++ [⟨a, i⟩]) cells slots ∧ T'.heap = h' ∧ Wr h h' a i v ∧ own_Ar Z h' a ty N (own_set f i v) ∧ ∀ target, Steps p.tables e below (T'.setTop (mkF m (pc + 1) Ls st)) target → Steps p.tables e below (T.setTop (mkF m pc Ls (v :: .int j :: .ref a :: st))) target := by
  obtain ⟨cl, A, r1, r2, r3⟩ := F
  obtain ⟨q1, q2⟩ := own_inb hj hi
  obtain ⟨T', h', X', e', W, stp⟩ := stR X hx hZ eT A (j := j) (by rw [r1]; exact q1) hty S (g := mkF m pc Ls (v :: .int j :: .ref a :: st)) rfl rfl (hb hby hd)
  rw [q2] at X' W
  exact ⟨T', h', X', e', W, own_Ar.store A r1 r2 r3 W, stp⟩
end OwnSteps
theorem own_narR {C : String} {v : Value} (h : v.isRef = true) : narrow (.object C) v = v := by rcases ref_cases h with rfl | ⟨z, rfl⟩ <;> rfl
theorem own_fitR {C : String} {v : Value} (h : v.isRef = true) : fits (.object C) v = true := by rcases ref_cases h with rfl | ⟨z, rfl⟩ <;> rfl
theorem own_irr {x : Int32} : ¬ x < x := by rw [Int32.lt_iff_toInt_lt]; omega
theorem own_irrL {x : Int64} : ¬ x < x := by rw [Int64.lt_iff_toInt_lt]; omega
theorem own_w0 {Z : State} {a0 : Array Value} (hw : ∀ d ∈ tables_1, d.before a0 Z = true) : (Jvm.Cond.classLink "com/example/iron_log/ironlog/consumequeue/QueueEntryIsUnwrittenPinLaw" (7 : Nat) "com/example/iron_log/ironlog/consumequeue/QueueEntry").before a0 Z = true := hw _ (List.mem_of_getElem? (i := 0) rfl)
theorem own_w1 {Z : State} {a0 : Array Value} (hw : ∀ d ∈ tables_1, d.before a0 Z = true) : (Jvm.Cond.instantiable "com/example/iron_log/ironlog/consumequeue/QueueEntry" (3 : Nat)).before a0 Z = true := hw _ (List.mem_of_getElem? (i := 1) rfl)
theorem own_w2 {Z : State} {a0 : Array Value} (hw : ∀ d ∈ tables_1, d.before a0 Z = true) : (Jvm.Cond.initialized "com/example/iron_log/ironlog/consumequeue/QueueEntry").before a0 Z = true := hw _ (List.mem_of_getElem? (i := 2) rfl)
theorem own_w3 {Z : State} {a0 : Array Value} (hw : ∀ d ∈ tables_1, d.before a0 Z = true) : (Jvm.Cond.methodLink "com/example/iron_log/ironlog/consumequeue/QueueEntryIsUnwrittenPinLaw" (9 : Nat) ({ cls := "com/example/iron_log/ironlog/consumequeue/QueueEntry", name := "<init>", desc := "(JIJ)V" } : Jvm.MethodName)).before a0 Z = true := hw _ (List.mem_of_getElem? (i := 3) rfl)
theorem own_w4 {Z : State} {a0 : Array Value} (hw : ∀ d ∈ tables_1, d.before a0 Z = true) : (Jvm.Cond.instanceMethod ({ cls := "com/example/iron_log/ironlog/consumequeue/QueueEntry", name := "<init>", desc := "(JIJ)V" } : Jvm.MethodName)).before a0 Z = true := hw _ (List.mem_of_getElem? (i := 4) rfl)
theorem own_w5 {Z : State} {a0 : Array Value} (hw : ∀ d ∈ tables_1, d.before a0 Z = true) : (Jvm.Cond.code ({ cls := "com/example/iron_log/ironlog/consumequeue/QueueEntry", name := "<init>", desc := "(JIJ)V" } : Jvm.MethodName) prog_44_method_1_code (6 : Nat) (Option.none : Option Jvm.ClassFile.FieldType)).before a0 Z = true := hw _ (List.mem_of_getElem? (i := 5) rfl)
theorem own_w6 {Z : State} {a0 : Array Value} (hw : ∀ d ∈ tables_1, d.before a0 Z = true) : (Jvm.Cond.methodLink "com/example/iron_log/ironlog/consumequeue/QueueEntry" (3 : Nat) ({ cls := "java/lang/Object", name := "<init>", desc := "()V" } : Jvm.MethodName)).before a0 Z = true := hw _ (List.mem_of_getElem? (i := 6) rfl)
theorem own_w7 {Z : State} {a0 : Array Value} (hw : ∀ d ∈ tables_1, d.before a0 Z = true) : (Jvm.Cond.instanceMethod ({ cls := "java/lang/Object", name := "<init>", desc := "()V" } : Jvm.MethodName)).before a0 Z = true := hw _ (List.mem_of_getElem? (i := 7) rfl)
theorem own_w8 {Z : State} {a0 : Array Value} (hw : ∀ d ∈ tables_1, d.before a0 Z = true) : (Jvm.Cond.code ({ cls := "java/lang/Object", name := "<init>", desc := "()V" } : Jvm.MethodName) object_method_1_code (1 : Nat) (Option.none : Option Jvm.ClassFile.FieldType)).before a0 Z = true := hw _ (List.mem_of_getElem? (i := 8) rfl)
theorem own_w9 {Z : State} {a0 : Array Value} (hw : ∀ d ∈ tables_1, d.before a0 Z = true) : (Jvm.Cond.fieldLink "com/example/iron_log/ironlog/consumequeue/QueueEntry" (9 : Nat) "com/example/iron_log/ironlog/consumequeue/QueueEntry" "commitLogOffset" "J").before a0 Z = true := hw _ (List.mem_of_getElem? (i := 9) rfl)
theorem own_w10 {Z : State} {a0 : Array Value} (hw : ∀ d ∈ tables_1, d.before a0 Z = true) : (Jvm.Cond.laysFinal "com/example/iron_log/ironlog/consumequeue/QueueEntry" "com/example/iron_log/ironlog/consumequeue/QueueEntry" "commitLogOffset" "J").before a0 Z = true := hw _ (List.mem_of_getElem? (i := 10) rfl)
theorem own_w11 {Z : State} {a0 : Array Value} (hw : ∀ d ∈ tables_1, d.before a0 Z = true) : (Jvm.Cond.fieldLink "com/example/iron_log/ironlog/consumequeue/QueueEntry" (15 : Nat) "com/example/iron_log/ironlog/consumequeue/QueueEntry" "recordSize" "I").before a0 Z = true := hw _ (List.mem_of_getElem? (i := 11) rfl)
theorem own_w12 {Z : State} {a0 : Array Value} (hw : ∀ d ∈ tables_1, d.before a0 Z = true) : (Jvm.Cond.laysFinal "com/example/iron_log/ironlog/consumequeue/QueueEntry" "com/example/iron_log/ironlog/consumequeue/QueueEntry" "recordSize" "I").before a0 Z = true := hw _ (List.mem_of_getElem? (i := 12) rfl)
theorem own_w13 {Z : State} {a0 : Array Value} (hw : ∀ d ∈ tables_1, d.before a0 Z = true) : (Jvm.Cond.fieldLink "com/example/iron_log/ironlog/consumequeue/QueueEntry" (19 : Nat) "com/example/iron_log/ironlog/consumequeue/QueueEntry" "tagsCode" "J").before a0 Z = true := hw _ (List.mem_of_getElem? (i := 13) rfl)
theorem own_w14 {Z : State} {a0 : Array Value} (hw : ∀ d ∈ tables_1, d.before a0 Z = true) : (Jvm.Cond.laysFinal "com/example/iron_log/ironlog/consumequeue/QueueEntry" "com/example/iron_log/ironlog/consumequeue/QueueEntry" "tagsCode" "J").before a0 Z = true := hw _ (List.mem_of_getElem? (i := 14) rfl)
theorem own_w15 {Z : State} {a0 : Array Value} (hw : ∀ d ∈ tables_1, d.before a0 Z = true) : (Jvm.Cond.methodLink "com/example/iron_log/ironlog/consumequeue/QueueEntryIsUnwrittenPinLaw" (12 : Nat) ({ cls := "com/example/iron_log/ironlog/consumequeue/QueueEntry", name := "isUnwritten", desc := "()Z" } : Jvm.MethodName)).before a0 Z = true := hw _ (List.mem_of_getElem? (i := 15) rfl)
theorem own_w16 {Z : State} {a0 : Array Value} (hw : ∀ d ∈ tables_1, d.before a0 Z = true) : (Jvm.Cond.declares ({ cls := "com/example/iron_log/ironlog/consumequeue/QueueEntry", name := "isUnwritten", desc := "()Z" } : Jvm.MethodName)).before a0 Z = true := hw _ (List.mem_of_getElem? (i := 16) rfl)
theorem own_w17 {Z : State} {a0 : Array Value} (hw : ∀ d ∈ tables_1, d.before a0 Z = true) : (Jvm.Cond.instanceMethod ({ cls := "com/example/iron_log/ironlog/consumequeue/QueueEntry", name := "isUnwritten", desc := "()Z" } : Jvm.MethodName)).before a0 Z = true := hw _ (List.mem_of_getElem? (i := 17) rfl)
theorem own_w18 {Z : State} {a0 : Array Value} (hw : ∀ d ∈ tables_1, d.before a0 Z = true) : (Jvm.Cond.selects "com/example/iron_log/ironlog/consumequeue/QueueEntry" ({ cls := "com/example/iron_log/ironlog/consumequeue/QueueEntry", name := "isUnwritten", desc := "()Z" } : Jvm.MethodName) ({ cls := "com/example/iron_log/ironlog/consumequeue/QueueEntry", name := "isUnwritten", desc := "()Z" } : Jvm.MethodName)).before a0 Z = true := hw _ (List.mem_of_getElem? (i := 18) rfl)
theorem own_w19 {Z : State} {a0 : Array Value} (hw : ∀ d ∈ tables_1, d.before a0 Z = true) : (Jvm.Cond.code ({ cls := "com/example/iron_log/ironlog/consumequeue/QueueEntry", name := "isUnwritten", desc := "()Z" } : Jvm.MethodName) prog_44_method_12_code (1 : Nat) (Option.some Jvm.ClassFile.FieldType.boolean)).before a0 Z = true := hw _ (List.mem_of_getElem? (i := 19) rfl)
theorem own_w20 {Z : State} {a0 : Array Value} (hw : ∀ d ∈ tables_1, d.before a0 Z = true) : (Jvm.Cond.methodLink "com/example/iron_log/ironlog/consumequeue/QueueEntryIsUnwrittenPinLaw" (16 : Nat) ({ cls := "com/example/iron_log/ironlog/consumequeue/QueueEntry", name := "equals", desc := "(Ljava/lang/Object;)Z" } : Jvm.MethodName)).before a0 Z = true := hw _ (List.mem_of_getElem? (i := 20) rfl)
theorem own_w21 {Z : State} {a0 : Array Value} (hw : ∀ d ∈ tables_1, d.before a0 Z = true) : (Jvm.Cond.declares ({ cls := "com/example/iron_log/ironlog/consumequeue/QueueEntry", name := "equals", desc := "(Ljava/lang/Object;)Z" } : Jvm.MethodName)).before a0 Z = true := hw _ (List.mem_of_getElem? (i := 21) rfl)
theorem own_w22 {Z : State} {a0 : Array Value} (hw : ∀ d ∈ tables_1, d.before a0 Z = true) : (Jvm.Cond.instanceMethod ({ cls := "com/example/iron_log/ironlog/consumequeue/QueueEntry", name := "equals", desc := "(Ljava/lang/Object;)Z" } : Jvm.MethodName)).before a0 Z = true := hw _ (List.mem_of_getElem? (i := 22) rfl)
theorem own_w23 {Z : State} {a0 : Array Value} (hw : ∀ d ∈ tables_1, d.before a0 Z = true) : (Jvm.Cond.selects "com/example/iron_log/ironlog/consumequeue/QueueEntry" ({ cls := "com/example/iron_log/ironlog/consumequeue/QueueEntry", name := "equals", desc := "(Ljava/lang/Object;)Z" } : Jvm.MethodName) ({ cls := "com/example/iron_log/ironlog/consumequeue/QueueEntry", name := "equals", desc := "(Ljava/lang/Object;)Z" } : Jvm.MethodName)).before a0 Z = true := hw _ (List.mem_of_getElem? (i := 23) rfl)
theorem own_w24 {Z : State} {a0 : Array Value} (hw : ∀ d ∈ tables_1, d.before a0 Z = true) : (Jvm.Cond.code ({ cls := "com/example/iron_log/ironlog/consumequeue/QueueEntry", name := "equals", desc := "(Ljava/lang/Object;)Z" } : Jvm.MethodName) prog_44_method_13_code (3 : Nat) (Option.some Jvm.ClassFile.FieldType.boolean)).before a0 Z = true := hw _ (List.mem_of_getElem? (i := 24) rfl)
theorem own_w25 {Z : State} {a0 : Array Value} (hw : ∀ d ∈ tables_1, d.before a0 Z = true) : (Jvm.Cond.classLink "com/example/iron_log/ironlog/consumequeue/QueueEntry" (10 : Nat) "com/example/iron_log/ironlog/consumequeue/QueueEntry").before a0 Z = true := hw _ (List.mem_of_getElem? (i := 25) rfl)
theorem own_w27 {Z : State} {a0 : Array Value} (hw : ∀ d ∈ tables_1, d.before a0 Z = true) : (Jvm.Cond.methodLink "com/example/iron_log/ironlog/consumequeue/QueueEntryIsUnwrittenPinLaw" (20 : Nat) ({ cls := "com/example/iron_log/ironlog/consumequeue/QueueEntry", name := "givesPlace", desc := "()Z" } : Jvm.MethodName)).before a0 Z = true := hw _ (List.mem_of_getElem? (i := 27) rfl)
theorem own_w28 {Z : State} {a0 : Array Value} (hw : ∀ d ∈ tables_1, d.before a0 Z = true) : (Jvm.Cond.declares ({ cls := "com/example/iron_log/ironlog/consumequeue/QueueEntry", name := "givesPlace", desc := "()Z" } : Jvm.MethodName)).before a0 Z = true := hw _ (List.mem_of_getElem? (i := 28) rfl)
theorem own_w29 {Z : State} {a0 : Array Value} (hw : ∀ d ∈ tables_1, d.before a0 Z = true) : (Jvm.Cond.instanceMethod ({ cls := "com/example/iron_log/ironlog/consumequeue/QueueEntry", name := "givesPlace", desc := "()Z" } : Jvm.MethodName)).before a0 Z = true := hw _ (List.mem_of_getElem? (i := 29) rfl)
theorem own_w30 {Z : State} {a0 : Array Value} (hw : ∀ d ∈ tables_1, d.before a0 Z = true) : (Jvm.Cond.selects "com/example/iron_log/ironlog/consumequeue/QueueEntry" ({ cls := "com/example/iron_log/ironlog/consumequeue/QueueEntry", name := "givesPlace", desc := "()Z" } : Jvm.MethodName) ({ cls := "com/example/iron_log/ironlog/consumequeue/QueueEntry", name := "givesPlace", desc := "()Z" } : Jvm.MethodName)).before a0 Z = true := hw _ (List.mem_of_getElem? (i := 30) rfl)
theorem own_w31 {Z : State} {a0 : Array Value} (hw : ∀ d ∈ tables_1, d.before a0 Z = true) : (Jvm.Cond.code ({ cls := "com/example/iron_log/ironlog/consumequeue/QueueEntry", name := "givesPlace", desc := "()Z" } : Jvm.MethodName) prog_44_method_9_code (1 : Nat) (Option.some Jvm.ClassFile.FieldType.boolean)).before a0 Z = true := hw _ (List.mem_of_getElem? (i := 31) rfl)
theorem own_w32 {Z : State} {a0 : Array Value} (hw : ∀ d ∈ tables_1, d.before a0 Z = true) : (Jvm.Cond.methodLink "com/example/iron_log/ironlog/consumequeue/QueueEntryIsUnwrittenPinLaw" (23 : Nat) ({ cls := "com/example/iron_log/ironlog/consumequeue/QueueEntry", name := "isLost", desc := "()Z" } : Jvm.MethodName)).before a0 Z = true := hw _ (List.mem_of_getElem? (i := 32) rfl)
theorem own_w33 {Z : State} {a0 : Array Value} (hw : ∀ d ∈ tables_1, d.before a0 Z = true) : (Jvm.Cond.declares ({ cls := "com/example/iron_log/ironlog/consumequeue/QueueEntry", name := "isLost", desc := "()Z" } : Jvm.MethodName)).before a0 Z = true := hw _ (List.mem_of_getElem? (i := 33) rfl)
theorem own_w34 {Z : State} {a0 : Array Value} (hw : ∀ d ∈ tables_1, d.before a0 Z = true) : (Jvm.Cond.instanceMethod ({ cls := "com/example/iron_log/ironlog/consumequeue/QueueEntry", name := "isLost", desc := "()Z" } : Jvm.MethodName)).before a0 Z = true := hw _ (List.mem_of_getElem? (i := 34) rfl)
theorem own_w35 {Z : State} {a0 : Array Value} (hw : ∀ d ∈ tables_1, d.before a0 Z = true) : (Jvm.Cond.selects "com/example/iron_log/ironlog/consumequeue/QueueEntry" ({ cls := "com/example/iron_log/ironlog/consumequeue/QueueEntry", name := "isLost", desc := "()Z" } : Jvm.MethodName) ({ cls := "com/example/iron_log/ironlog/consumequeue/QueueEntry", name := "isLost", desc := "()Z" } : Jvm.MethodName)).before a0 Z = true := hw _ (List.mem_of_getElem? (i := 35) rfl)
theorem own_w36 {Z : State} {a0 : Array Value} (hw : ∀ d ∈ tables_1, d.before a0 Z = true) : (Jvm.Cond.code ({ cls := "com/example/iron_log/ironlog/consumequeue/QueueEntry", name := "isLost", desc := "()Z" } : Jvm.MethodName) prog_44_method_11_code (1 : Nat) (Option.some Jvm.ClassFile.FieldType.boolean)).before a0 Z = true := hw _ (List.mem_of_getElem? (i := 36) rfl)
theorem own_w37 {Z : State} {a0 : Array Value} (hw : ∀ d ∈ tables_1, d.before a0 Z = true) : (Jvm.Cond.methodLink "com/example/iron_log/ironlog/consumequeue/QueueEntryIsUnwrittenPinLaw" (26 : Nat) ({ cls := "com/example/iron_log/ironlog/consumequeue/QueueEntry", name := "isOfDamage", desc := "()Z" } : Jvm.MethodName)).before a0 Z = true := hw _ (List.mem_of_getElem? (i := 37) rfl)
theorem own_w38 {Z : State} {a0 : Array Value} (hw : ∀ d ∈ tables_1, d.before a0 Z = true) : (Jvm.Cond.declares ({ cls := "com/example/iron_log/ironlog/consumequeue/QueueEntry", name := "isOfDamage", desc := "()Z" } : Jvm.MethodName)).before a0 Z = true := hw _ (List.mem_of_getElem? (i := 38) rfl)
theorem own_w39 {Z : State} {a0 : Array Value} (hw : ∀ d ∈ tables_1, d.before a0 Z = true) : (Jvm.Cond.instanceMethod ({ cls := "com/example/iron_log/ironlog/consumequeue/QueueEntry", name := "isOfDamage", desc := "()Z" } : Jvm.MethodName)).before a0 Z = true := hw _ (List.mem_of_getElem? (i := 39) rfl)
theorem own_w40 {Z : State} {a0 : Array Value} (hw : ∀ d ∈ tables_1, d.before a0 Z = true) : (Jvm.Cond.selects "com/example/iron_log/ironlog/consumequeue/QueueEntry" ({ cls := "com/example/iron_log/ironlog/consumequeue/QueueEntry", name := "isOfDamage", desc := "()Z" } : Jvm.MethodName) ({ cls := "com/example/iron_log/ironlog/consumequeue/QueueEntry", name := "isOfDamage", desc := "()Z" } : Jvm.MethodName)).before a0 Z = true := hw _ (List.mem_of_getElem? (i := 40) rfl)
theorem own_w41 {Z : State} {a0 : Array Value} (hw : ∀ d ∈ tables_1, d.before a0 Z = true) : (Jvm.Cond.code ({ cls := "com/example/iron_log/ironlog/consumequeue/QueueEntry", name := "isOfDamage", desc := "()Z" } : Jvm.MethodName) prog_44_method_10_code (1 : Nat) (Option.some Jvm.ClassFile.FieldType.boolean)).before a0 Z = true := hw _ (List.mem_of_getElem? (i := 41) rfl)
theorem own_w42 {Z : State} {a0 : Array Value} (hw : ∀ d ∈ tables_1, d.before a0 Z = true) : (Jvm.Cond.constantLong "com/example/iron_log/ironlog/consumequeue/QueueEntry" (42 : Nat) (-9223372036854775808 : Int64)).before a0 Z = true := hw _ (List.mem_of_getElem? (i := 42) rfl)
theorem own_d1_0 : decode prog_44_method_1_code 0 = .ok (.aload_n 0, 1) := by decide +kernel
theorem own_d1_1 : decode prog_44_method_1_code 1 = .ok (.invokespecial 3, 3) := by decide +kernel
theorem own_d1_4 : decode prog_44_method_1_code 4 = .ok (.aload_n 0, 1) := by decide +kernel
theorem own_d1_5 : decode prog_44_method_1_code 5 = .ok (.lload_n 1, 1) := by decide +kernel
theorem own_d1_6 : decode prog_44_method_1_code 6 = .ok (.putfield 9, 3) := by decide +kernel
theorem own_d1_9 : decode prog_44_method_1_code 9 = .ok (.aload_n 0, 1) := by decide +kernel
theorem own_d1_10 : decode prog_44_method_1_code 10 = .ok (.iload_n 3, 1) := by decide +kernel
theorem own_d1_11 : decode prog_44_method_1_code 11 = .ok (.putfield 15, 3) := by decide +kernel
theorem own_d1_14 : decode prog_44_method_1_code 14 = .ok (.aload_n 0, 1) := by decide +kernel
theorem own_d1_15 : decode prog_44_method_1_code 15 = .ok (.lload 4, 2) := by decide +kernel
theorem own_d1_17 : decode prog_44_method_1_code 17 = .ok (.putfield 19, 3) := by decide +kernel
theorem own_d1_20 : decode prog_44_method_1_code 20 = .ok (.return_, 1) := by decide +kernel
theorem own_d3_0 : decode prog_44_method_12_code 0 = .ok (.aload_n 0, 1) := by decide +kernel
theorem own_d3_1 : decode prog_44_method_12_code 1 = .ok (.getfield 9, 3) := by decide +kernel
theorem own_d3_4 : decode prog_44_method_12_code 4 = .ok (.lconst 0, 1) := by decide +kernel
theorem own_d3_5 : decode prog_44_method_12_code 5 = .ok (.lcmp, 1) := by decide +kernel
theorem own_d3_6 : decode prog_44_method_12_code 6 = .ok (.ifCond .ne 23, 3) := by decide +kernel
theorem own_d3_9 : decode prog_44_method_12_code 9 = .ok (.aload_n 0, 1) := by decide +kernel
theorem own_d3_10 : decode prog_44_method_12_code 10 = .ok (.getfield 15, 3) := by decide +kernel
theorem own_d3_13 : decode prog_44_method_12_code 13 = .ok (.ifCond .ne 16, 3) := by decide +kernel
theorem own_d3_16 : decode prog_44_method_12_code 16 = .ok (.aload_n 0, 1) := by decide +kernel
theorem own_d3_17 : decode prog_44_method_12_code 17 = .ok (.getfield 19, 3) := by decide +kernel
theorem own_d3_20 : decode prog_44_method_12_code 20 = .ok (.lconst 0, 1) := by decide +kernel
theorem own_d3_21 : decode prog_44_method_12_code 21 = .ok (.lcmp, 1) := by decide +kernel
theorem own_d3_22 : decode prog_44_method_12_code 22 = .ok (.ifCond .ne 7, 3) := by decide +kernel
theorem own_d3_25 : decode prog_44_method_12_code 25 = .ok (.iconst 1, 1) := by decide +kernel
theorem own_d3_26 : decode prog_44_method_12_code 26 = .ok (.goto 4, 3) := by decide +kernel
theorem own_d3_29 : decode prog_44_method_12_code 29 = .ok (.iconst 0, 1) := by decide +kernel
theorem own_d3_30 : decode prog_44_method_12_code 30 = .ok (.ireturn, 1) := by decide +kernel
theorem own_d4_0 : decode prog_44_method_13_code 0 = .ok (.aload_n 1, 1) := by decide +kernel
theorem own_d4_1 : decode prog_44_method_13_code 1 = .ok (.instanceof 10, 3) := by decide +kernel
theorem own_d4_4 : decode prog_44_method_13_code 4 = .ok (.ifCond .ne 5, 3) := by decide +kernel
theorem own_d4_9 : decode prog_44_method_13_code 9 = .ok (.aload_n 1, 1) := by decide +kernel
theorem own_d4_10 : decode prog_44_method_13_code 10 = .ok (.checkcast 10, 3) := by decide +kernel
theorem own_d4_13 : decode prog_44_method_13_code 13 = .ok (.astore_n 2, 1) := by decide +kernel
theorem own_d4_14 : decode prog_44_method_13_code 14 = .ok (.aload_n 0, 1) := by decide +kernel
theorem own_d4_15 : decode prog_44_method_13_code 15 = .ok (.getfield 9, 3) := by decide +kernel
theorem own_d4_18 : decode prog_44_method_13_code 18 = .ok (.aload_n 2, 1) := by decide +kernel
theorem own_d4_19 : decode prog_44_method_13_code 19 = .ok (.getfield 9, 3) := by decide +kernel
theorem own_d4_22 : decode prog_44_method_13_code 22 = .ok (.lcmp, 1) := by decide +kernel
theorem own_d4_23 : decode prog_44_method_13_code 23 = .ok (.ifCond .ne 30, 3) := by decide +kernel
theorem own_d4_26 : decode prog_44_method_13_code 26 = .ok (.aload_n 0, 1) := by decide +kernel
theorem own_d4_27 : decode prog_44_method_13_code 27 = .ok (.getfield 15, 3) := by decide +kernel
theorem own_d4_30 : decode prog_44_method_13_code 30 = .ok (.aload_n 2, 1) := by decide +kernel
theorem own_d4_31 : decode prog_44_method_13_code 31 = .ok (.getfield 15, 3) := by decide +kernel
theorem own_d4_34 : decode prog_44_method_13_code 34 = .ok (.if_icmp .ne 19, 3) := by decide +kernel
theorem own_d4_37 : decode prog_44_method_13_code 37 = .ok (.aload_n 0, 1) := by decide +kernel
theorem own_d4_38 : decode prog_44_method_13_code 38 = .ok (.getfield 19, 3) := by decide +kernel
theorem own_d4_41 : decode prog_44_method_13_code 41 = .ok (.aload_n 2, 1) := by decide +kernel
theorem own_d4_42 : decode prog_44_method_13_code 42 = .ok (.getfield 19, 3) := by decide +kernel
theorem own_d4_45 : decode prog_44_method_13_code 45 = .ok (.lcmp, 1) := by decide +kernel
theorem own_d4_46 : decode prog_44_method_13_code 46 = .ok (.ifCond .ne 7, 3) := by decide +kernel
theorem own_d4_49 : decode prog_44_method_13_code 49 = .ok (.iconst 1, 1) := by decide +kernel
theorem own_d4_50 : decode prog_44_method_13_code 50 = .ok (.goto 4, 3) := by decide +kernel
theorem own_d4_53 : decode prog_44_method_13_code 53 = .ok (.iconst 0, 1) := by decide +kernel
theorem own_d4_54 : decode prog_44_method_13_code 54 = .ok (.ireturn, 1) := by decide +kernel
theorem own_d5_0 : decode prog_44_method_9_code 0 = .ok (.aload_n 0, 1) := by decide +kernel
theorem own_d5_1 : decode prog_44_method_9_code 1 = .ok (.getfield 9, 3) := by decide +kernel
theorem own_d5_4 : decode prog_44_method_9_code 4 = .ok (.lconst 0, 1) := by decide +kernel
theorem own_d5_5 : decode prog_44_method_9_code 5 = .ok (.lcmp, 1) := by decide +kernel
theorem own_d5_6 : decode prog_44_method_9_code 6 = .ok (.ifCond .lt 14, 3) := by decide +kernel
theorem own_d5_9 : decode prog_44_method_9_code 9 = .ok (.aload_n 0, 1) := by decide +kernel
theorem own_d5_10 : decode prog_44_method_9_code 10 = .ok (.getfield 15, 3) := by decide +kernel
theorem own_d5_13 : decode prog_44_method_9_code 13 = .ok (.ifCond .le 7, 3) := by decide +kernel
theorem own_d5_16 : decode prog_44_method_9_code 16 = .ok (.iconst 1, 1) := by decide +kernel
theorem own_d5_17 : decode prog_44_method_9_code 17 = .ok (.goto 4, 3) := by decide +kernel
theorem own_d5_20 : decode prog_44_method_9_code 20 = .ok (.iconst 0, 1) := by decide +kernel
theorem own_d5_21 : decode prog_44_method_9_code 21 = .ok (.ireturn, 1) := by decide +kernel
theorem own_d6_0 : decode prog_44_method_11_code 0 = .ok (.aload_n 0, 1) := by decide +kernel
theorem own_d6_1 : decode prog_44_method_11_code 1 = .ok (.getfield 15, 3) := by decide +kernel
theorem own_d6_4 : decode prog_44_method_11_code 4 = .ok (.iconst (-1), 1) := by decide +kernel
theorem own_d6_5 : decode prog_44_method_11_code 5 = .ok (.if_icmp .ne 7, 3) := by decide +kernel
theorem own_d6_8 : decode prog_44_method_11_code 8 = .ok (.iconst 1, 1) := by decide +kernel
theorem own_d6_9 : decode prog_44_method_11_code 9 = .ok (.goto 4, 3) := by decide +kernel
theorem own_d6_12 : decode prog_44_method_11_code 12 = .ok (.iconst 0, 1) := by decide +kernel
theorem own_d6_13 : decode prog_44_method_11_code 13 = .ok (.ireturn, 1) := by decide +kernel
theorem own_d7_0 : decode prog_44_method_10_code 0 = .ok (.aload_n 0, 1) := by decide +kernel
theorem own_d7_1 : decode prog_44_method_10_code 1 = .ok (.getfield 19, 3) := by decide +kernel
theorem own_d7_4 : decode prog_44_method_10_code 4 = .ok (.ldc2_w 42, 3) := by decide +kernel
theorem own_d7_7 : decode prog_44_method_10_code 7 = .ok (.lcmp, 1) := by decide +kernel
theorem own_d7_8 : decode prog_44_method_10_code 8 = .ok (.ifCond .ne 7, 3) := by decide +kernel
theorem own_d7_11 : decode prog_44_method_10_code 11 = .ok (.iconst 1, 1) := by decide +kernel
theorem own_d7_12 : decode prog_44_method_10_code 12 = .ok (.goto 4, 3) := by decide +kernel
theorem own_d7_15 : decode prog_44_method_10_code 15 = .ok (.iconst 0, 1) := by decide +kernel
theorem own_d7_16 : decode prog_44_method_10_code 16 = .ok (.ireturn, 1) := by decide +kernel
theorem own_pd0 : parseMethodDescriptor "(JIJ)V" = some ⟨[.long, .int, .long], none⟩ := by decide +kernel
theorem own_pd1 : parseMethodDescriptor "()Z" = some ⟨[], some .boolean⟩ := by decide +kernel
theorem own_pd2 : parseMethodDescriptor "(Ljava/lang/Object;)Z" = some ⟨[(.object "java/lang/Object")], some .boolean⟩ := by decide +kernel
theorem own_pn0 : plainName "com/example/iron_log/ironlog/consumequeue/QueueEntry" = true := by first | (simp [plainName, overriddenIn]; done) | decide +kernel
theorem own_pn1 : plainName "com/example/iron_log/ironlog/consumequeue/QueueEntryIsUnwrittenPinLaw" = true := by first | (simp [plainName, overriddenIn]; done) | decide +kernel
def own_eq (o1 : Int64) (s1 : Int32) (t1 o2 : Int64) (s2 : Int32) (t2 : Int64) : Int32 := if o1 = o2 then (if s1 = s2 then (if t1 = t2 then 1 else 0) else 0) else 0
def own_gp (o : Int64) (z : Int32) : Int32 := if o < (0 : Int64) then 0 else if (0 : Int32) < z then 1 else 0
def own_lost (z : Int32) : Int32 := if z = (-1 : Int32) then 1 else 0
def own_dmg (t : Int64) : Int32 := if t = (-9223372036854775808 : Int64) then 1 else 0
theorem own_eq0 {o1 : Int64} {s1 : Int32} {t1 o2 : Int64} {s2 : Int32} {t2 : Int64} (h : ¬ own_eq o1 s1 t1 o2 s2 t2 = 0) : o1 = o2 ∧ s1 = s2 ∧ t1 = t2 := by
  unfold own_eq at h
  by_cases h1 : o1 = o2
  · by_cases h2 : s1 = s2
    · by_cases h3 : t1 = t2
      · exact ⟨h1, h2, h3⟩
      · simp [h3] at h
    · simp [h2] at h
  · simp [h1] at h

def own_rm1_Q (Z : State) (a : Addr) (x1 : Int64) (x2 : Int32) (x3 : Int64)  (h0 : Heap) (n0 : Nat) : Option Value → Heap → List Loc → Prop := fun v h L => v = none ∧ Fr n0 L ∧ Keep h0 h [a] ∧ Exa Z h a "com/example/iron_log/ironlog/consumequeue/QueueEntry" ∧ Fld Z h a "com/example/iron_log/ironlog/consumequeue/QueueEntry" "commitLogOffset" "J" (Value.long x1) ∧ Fld Z h a "com/example/iron_log/ironlog/consumequeue/QueueEntry" "recordSize" "I" (Value.int x2) ∧ Fld Z h a "com/example/iron_log/ironlog/consumequeue/QueueEntry" "tagsCode" "J" (Value.long x3)
theorem own_rm1_ef (m : MethodId) (a : Addr) (x1 : Int64) (x2 : Int32) (x3 : Int64)  : entryFrame m #[(Value.ref a), (Value.long x1), (Value.int x2), (Value.long x3)] 6 = mkF m 0 #[.val (Value.ref a), .val (Value.long x1), .second, .val (Value.int x2), .val (Value.long x3), .second] [] := by first | (simp [entryFrame, mkF, argsToLocals, Value.category]; done) | rfl
set_option maxRecDepth 65536 in
set_option maxHeartbeats 40000000 in
theorem own_rm1 (l : Launch) (Z : State) (a0 : Array Value) (hw : ∀ d ∈ tables_1, d.before a0 Z = true) (ws : List Jvm.Cond) (a : Addr) (x1 : Int64) (x2 : Int32) (x3 : Int64)  (h0 : Heap) (n0 : Nat) (O0 : Old Z n0 h0) (E_a : Exa Z h0 a "com/example/iron_log/ironlog/consumequeue/QueueEntry") (F_a_commitLogOffset : Fld Z h0 a "com/example/iron_log/ironlog/consumequeue/QueueEntry" "commitLogOffset" "J" (Value.long (0 : Int64))) (F_a_recordSize : Fld Z h0 a "com/example/iron_log/ironlog/consumequeue/QueueEntry" "recordSize" "I" (Value.int (0 : Int32))) (F_a_tagsCode : Fld Z h0 a "com/example/iron_log/ironlog/consumequeue/QueueEntry" "tagsCode" "J" (Value.long (0 : Int64))) (g_a : n0 ≤ a)  :
    MetFree l (⟨"com/example/iron_log/ironlog/consumequeue/QueueEntry", "<init>", "(JIJ)V"⟩ : MethodName) (head1 (Jvm.Cond.code (⟨"com/example/iron_log/ironlog/consumequeue/QueueEntry", "<init>", "(JIJ)V"⟩ : MethodName) prog_44_method_1_code 6 none :: ws) ({ frames := 1, cells := 0, slots := 0, locals := 12 } : Room)) (fun aa_ U => aa_ = #[(Value.ref a), (Value.long x1), (Value.int x2), (Value.long x3)] ∧ Z.Warmed39 U.vm ∧ U.heap = h0) (fun _ _ _ _ _ => True) (fun _ U o U' => ∃ v L, o = .returned v ∧ (own_rm1_Q Z a x1 x2 x3 h0 n0) v U'.heap L ∧ FrameEnd U o U' L ({ frames := 1, cells := 0, slots := 0, locals := 12 } : Room).cells ({ frames := 1, cells := 0, slots := 0, locals := 12 } : Room).slots) := by
  refine MetFree.of_bodySF (plainFor_of_name own_pn0) hisR ?_
  intro p e s m args below meth c s₁ Bd hml0 hP hK
  obtain ⟨rfl, hZ, hh⟩ := hP
  have hx := Bd.exec
  have hby := Bd.bytes
  have hml : c.maxLocals = 6 := hml0
  have hown : s.vm.findClass "com/example/iron_log/ironlog/consumequeue/QueueEntry" = some m.cls := findClass_of_methodNamed Bd.named
  have hnm := (name_of_methodNamed Bd.named Bd.method).1
  have hlk : meth.locks = false := BodyLoose.notSynchronized Bd
  have X0 : Stand p l e ({ frames := 1, cells := 0, slots := 0, locals := 12 } : Room) s m #[(Value.ref a), (Value.long x1), (Value.int x2), (Value.long x3)] below meth c s₁ [] 0 0 := Stand.of_body Bd
  have e0 : s₁.heap = h0 := by rw [← hh, Bd.state]; rfl
  have N0 := Fr.nil n0
  show own_G p e below s (own_rm1_Q Z a x1 x2 x3 h0 n0) ({ frames := 1, cells := 0, slots := 0, locals := 12 } : Room).cells ({ frames := 1, cells := 0, slots := 0, locals := 12 } : Room).slots (s₁.setTop (entryFrame m #[(Value.ref a), (Value.long x1), (Value.int x2), (Value.long x3)] 6))
  refine own_cast (own_rm1_ef m a x1 x2 x3 ) ?_
  show own_G p e below s _ _ _ (s₁.setTop (mkF m 0 #[.val (Value.ref a), .val (Value.long x1), .second, .val (Value.int x2), .val (Value.long x3), .second] []))
  refine own_aloadN X0 hx hby own_d1_0 rfl rfl ?_
  show own_G p e below s _ _ _ (s₁.setTop (mkF m 1 #[.val (Value.ref a), .val (Value.long x1), .second, .val (Value.int x2), .val (Value.long x3), .second] [(Value.ref a)]))
  obtain ⟨T1, X1, e1, st1⟩ := initO X0 hx hZ hown (own_w6 hw) (own_w7 hw) (own_w8 hw) e0 (g := (mkF m 1 #[.val (Value.ref a), .val (Value.long x1), .second, .val (Value.int x2), .val (Value.long x3), .second] [(Value.ref a)])) rfl (by rw [hml]; rfl) rfl (hb hby own_d1_1) (by decide) (W := 0) (by show 2 * 0 + _ ≤ _; exact Nat.le_of_eq rfl) (by decide)
  refine own_st st1 ?_
  show own_G p e below s _ _ _ (T1.setTop (mkF m 4 #[.val (Value.ref a), .val (Value.long x1), .second, .val (Value.int x2), .val (Value.long x3), .second] []))
  refine own_aloadN X1 hx hby own_d1_4 rfl rfl ?_
  show own_G p e below s _ _ _ (T1.setTop (mkF m 5 #[.val (Value.ref a), .val (Value.long x1), .second, .val (Value.int x2), .val (Value.long x3), .second] [(Value.ref a)]))
  refine own_lloadN X1 hx hby own_d1_5 rfl ?_
  show own_G p e below s _ _ _ (T1.setTop (mkF m 6 #[.val (Value.ref a), .val (Value.long x1), .second, .val (Value.int x2), .val (Value.long x3), .second] [(Value.long x1), (Value.ref a)]))
  obtain ⟨T2, h2, X2, e2, W2, st2⟩ := putF X1 hx hZ hown (host := "") (Or.inl (own_w9 hw)) Via.refl e1 F_a_commitLogOffset E_a (Or.inr ⟨(own_w10 hw), rfl, hnm⟩) (own_w1 hw) (ty := .long) (by decide) rfl rfl (g := (mkF m 6 #[.val (Value.ref a), .val (Value.long x1), .second, .val (Value.int x2), .val (Value.long x3), .second] [(Value.long x1), (Value.ref a)])) rfl rfl (hb hby own_d1_6)
  have F3_a_recordSize := Fld.other W2 F_a_recordSize (Or.inr (slot_ne (C := "com/example/iron_log/ironlog/consumequeue/QueueEntry") (Or.inr (own_w12 hw)) (Or.inr (own_w10 hw)) (by decide) (t := .int) (t' := .long) (by decide) (by decide)))
  have F3_a_tagsCode := Fld.other W2 F_a_tagsCode (Or.inr (slot_ne (C := "com/example/iron_log/ironlog/consumequeue/QueueEntry") (Or.inr (own_w14 hw)) (Or.inr (own_w10 hw)) (by decide) (t := .long) (t' := .long) (by decide) (by decide)))
  have E3_a := Exa.wr W2 E_a
  have O3 := Old.wr O0 W2 g_a
  have F2w := Fld.same W2 F_a_commitLogOffset
  have K2 := Keep.wr (Keep.refl h0 [a]) W2 (Or.inl (List.mem_of_getElem? (i := 0) rfl))
  have N2 := Fr.snoc X2 N0 g_a
  refine own_st st2 ?_
  show own_G p e below s _ _ _ (T2.setTop (mkF m 9 #[.val (Value.ref a), .val (Value.long x1), .second, .val (Value.int x2), .val (Value.long x3), .second] []))
  refine own_aloadN X2 hx hby own_d1_9 rfl rfl ?_
  show own_G p e below s _ _ _ (T2.setTop (mkF m 10 #[.val (Value.ref a), .val (Value.long x1), .second, .val (Value.int x2), .val (Value.long x3), .second] [(Value.ref a)]))
  refine own_iloadN X2 hx hby own_d1_10 rfl ?_
  show own_G p e below s _ _ _ (T2.setTop (mkF m 11 #[.val (Value.ref a), .val (Value.long x1), .second, .val (Value.int x2), .val (Value.long x3), .second] [(Value.int x2), (Value.ref a)]))
  obtain ⟨T4, h4, X4, e4, W4, st4⟩ := putF X2 hx hZ hown (host := "") (Or.inl (own_w11 hw)) Via.refl e2 F3_a_recordSize E3_a (Or.inr ⟨(own_w12 hw), rfl, hnm⟩) (own_w1 hw) (ty := .int) (by decide) rfl rfl (g := (mkF m 11 #[.val (Value.ref a), .val (Value.long x1), .second, .val (Value.int x2), .val (Value.long x3), .second] [(Value.int x2), (Value.ref a)])) rfl rfl (hb hby own_d1_11)
  have F5_a_commitLogOffset := Fld.other W4 F2w (Or.inr (slot_ne (C := "com/example/iron_log/ironlog/consumequeue/QueueEntry") (Or.inr (own_w10 hw)) (Or.inr (own_w12 hw)) (by decide) (t := .long) (t' := .int) (by decide) (by decide)))
  have F5_a_tagsCode := Fld.other W4 F3_a_tagsCode (Or.inr (slot_ne (C := "com/example/iron_log/ironlog/consumequeue/QueueEntry") (Or.inr (own_w14 hw)) (Or.inr (own_w12 hw)) (by decide) (t := .long) (t' := .int) (by decide) (by decide)))
  have E5_a := Exa.wr W4 E3_a
  have O5 := Old.wr O3 W4 g_a
  have F4w := Fld.same W4 F3_a_recordSize
  have K4 := Keep.wr K2 W4 (Or.inl (List.mem_of_getElem? (i := 0) rfl))
  have N4 := Fr.snoc X4 N2 g_a
  refine own_st st4 ?_
  show own_G p e below s _ _ _ (T4.setTop (mkF m 14 #[.val (Value.ref a), .val (Value.long x1), .second, .val (Value.int x2), .val (Value.long x3), .second] []))
  refine own_aloadN X4 hx hby own_d1_14 rfl rfl ?_
  show own_G p e below s _ _ _ (T4.setTop (mkF m 15 #[.val (Value.ref a), .val (Value.long x1), .second, .val (Value.int x2), .val (Value.long x3), .second] [(Value.ref a)]))
  refine own_lload X4 hx hby own_d1_15 rfl ?_
  show own_G p e below s _ _ _ (T4.setTop (mkF m 17 #[.val (Value.ref a), .val (Value.long x1), .second, .val (Value.int x2), .val (Value.long x3), .second] [(Value.long x3), (Value.ref a)]))
  obtain ⟨T6, h6, X6, e6, W6, st6⟩ := putF X4 hx hZ hown (host := "") (Or.inl (own_w13 hw)) Via.refl e4 F5_a_tagsCode E5_a (Or.inr ⟨(own_w14 hw), rfl, hnm⟩) (own_w1 hw) (ty := .long) (by decide) rfl rfl (g := (mkF m 17 #[.val (Value.ref a), .val (Value.long x1), .second, .val (Value.int x2), .val (Value.long x3), .second] [(Value.long x3), (Value.ref a)])) rfl rfl (hb hby own_d1_17)
  have F7_a_commitLogOffset := Fld.other W6 F5_a_commitLogOffset (Or.inr (slot_ne (C := "com/example/iron_log/ironlog/consumequeue/QueueEntry") (Or.inr (own_w10 hw)) (Or.inr (own_w14 hw)) (by decide) (t := .long) (t' := .long) (by decide) (by decide)))
  have F7_a_recordSize := Fld.other W6 F4w (Or.inr (slot_ne (C := "com/example/iron_log/ironlog/consumequeue/QueueEntry") (Or.inr (own_w12 hw)) (Or.inr (own_w14 hw)) (by decide) (t := .int) (t' := .long) (by decide) (by decide)))
  have E7_a := Exa.wr W6 E5_a
  have O7 := Old.wr O5 W6 g_a
  have F6w := Fld.same W6 F5_a_tagsCode
  have K6 := Keep.wr K4 W6 (Or.inl (List.mem_of_getElem? (i := 0) rfl))
  have N6 := Fr.snoc X6 N4 g_a
  refine own_st st6 ?_
  show own_G p e below s _ _ _ (T6.setTop (mkF m 20 #[.val (Value.ref a), .val (Value.long x1), .second, .val (Value.int x2), .val (Value.long x3), .second] []))
  refine own_ret0 X6 hx hby hlk Bd.returns own_d1_20 (by decide) (by decide) ?_
  show (fun v h L => v = none ∧ Fr n0 L ∧ Keep h0 h [a] ∧ Exa Z h a "com/example/iron_log/ironlog/consumequeue/QueueEntry" ∧ Fld Z h a "com/example/iron_log/ironlog/consumequeue/QueueEntry" "commitLogOffset" "J" (Value.long x1) ∧ Fld Z h a "com/example/iron_log/ironlog/consumequeue/QueueEntry" "recordSize" "I" (Value.int x2) ∧ Fld Z h a "com/example/iron_log/ironlog/consumequeue/QueueEntry" "tagsCode" "J" (Value.long x3)) none T6.heap _
  rw [e6]
  exact ⟨rfl, N6, K6, E7_a, F7_a_commitLogOffset, F7_a_recordSize, F6w⟩
def own_rm3_Q (Z : State) (a : Addr) (u0 : Int64) (u1 : Int32) (u2 : Int64) (h0 : Heap) (n0 : Nat) : Option Value → Heap → List Loc → Prop := fun v h L => v = some (Value.int (own_eq u0 u1 u2 (0 : Int64) (0 : Int32) (0 : Int64))) ∧ h = h0 ∧ Fr n0 L
theorem own_rm3_ef (m : MethodId) (a : Addr)  : entryFrame m #[(Value.ref a)] 1 = mkF m 0 #[.val (Value.ref a)] [] := by first | (simp [entryFrame, mkF, argsToLocals, Value.category]; done) | rfl
set_option maxRecDepth 65536 in
set_option maxHeartbeats 40000000 in
theorem own_rm3 (l : Launch) (Z : State) (a0 : Array Value) (hw : ∀ d ∈ tables_1, d.before a0 Z = true) (ws : List Jvm.Cond) (a : Addr) (u0 : Int64) (u1 : Int32) (u2 : Int64) (h0 : Heap) (n0 : Nat) (O0 : Old Z n0 h0) (F_a_commitLogOffset : Fld Z h0 a "com/example/iron_log/ironlog/consumequeue/QueueEntry" "commitLogOffset" "J" (Value.long u0)) (F_a_recordSize : Fld Z h0 a "com/example/iron_log/ironlog/consumequeue/QueueEntry" "recordSize" "I" (Value.int u1)) (F_a_tagsCode : Fld Z h0 a "com/example/iron_log/ironlog/consumequeue/QueueEntry" "tagsCode" "J" (Value.long u2))  :
    MetFree l (⟨"com/example/iron_log/ironlog/consumequeue/QueueEntry", "isUnwritten", "()Z"⟩ : MethodName) (head1 (Jvm.Cond.code (⟨"com/example/iron_log/ironlog/consumequeue/QueueEntry", "isUnwritten", "()Z"⟩ : MethodName) prog_44_method_12_code 1 (some .boolean) :: ws) ({ frames := 0, cells := 0, slots := 0, locals := 0 } : Room)) (fun aa_ U => aa_ = #[(Value.ref a)] ∧ Z.Warmed39 U.vm ∧ U.heap = h0) (fun _ _ _ _ _ => True) (fun _ U o U' => ∃ v L, o = .returned v ∧ (own_rm3_Q Z a u0 u1 u2 h0 n0) v U'.heap L ∧ FrameEnd U o U' L ({ frames := 0, cells := 0, slots := 0, locals := 0 } : Room).cells ({ frames := 0, cells := 0, slots := 0, locals := 0 } : Room).slots) := by
  refine MetFree.of_bodySF (plainFor_of_name own_pn0) hisR ?_
  intro p e s m args below meth c s₁ Bd hml0 hP hK
  obtain ⟨rfl, hZ, hh⟩ := hP
  have hx := Bd.exec
  have hby := Bd.bytes
  have hml : c.maxLocals = 1 := hml0
  have hown : s.vm.findClass "com/example/iron_log/ironlog/consumequeue/QueueEntry" = some m.cls := findClass_of_methodNamed Bd.named
  have hnm := (name_of_methodNamed Bd.named Bd.method).1
  have hlk : meth.locks = false := BodyLoose.notSynchronized Bd
  have X0 : Stand p l e ({ frames := 0, cells := 0, slots := 0, locals := 0 } : Room) s m #[(Value.ref a)] below meth c s₁ [] 0 0 := Stand.of_body Bd
  have e0 : s₁.heap = h0 := by rw [← hh, Bd.state]; rfl
  have N0 := Fr.nil n0
  show own_G p e below s (own_rm3_Q Z a u0 u1 u2 h0 n0) ({ frames := 0, cells := 0, slots := 0, locals := 0 } : Room).cells ({ frames := 0, cells := 0, slots := 0, locals := 0 } : Room).slots (s₁.setTop (entryFrame m #[(Value.ref a)] 1))
  refine own_cast (own_rm3_ef m a ) ?_
  show own_G p e below s _ _ _ (s₁.setTop (mkF m 0 #[.val (Value.ref a)] []))
  refine own_aloadN X0 hx hby own_d3_0 rfl rfl ?_
  show own_G p e below s _ _ _ (s₁.setTop (mkF m 1 #[.val (Value.ref a)] [(Value.ref a)]))
  obtain ⟨T1, X1, e1, st1⟩ := getF X0 hx hZ hown (host := "") (Or.inl (own_w9 hw)) Via.refl e0 F_a_commitLogOffset (g := (mkF m 1 #[.val (Value.ref a)] [(Value.ref a)])) rfl rfl (hb hby own_d3_1)
  refine own_st st1 ?_
  show own_G p e below s _ _ _ (T1.setTop (mkF m 4 #[.val (Value.ref a)] [(Value.long u0)]))
  refine own_lconst X1 hx hby own_d3_4 ?_
  show own_G p e below s _ _ _ (T1.setTop (mkF m 5 #[.val (Value.ref a)] [(Value.long (0 : Int64)), (Value.long u0)]))
  refine own_lcmp_ne X1 hx hby own_d3_5 own_d3_6 (pc' := 29) (by decide) (by decide) (fun hb2 => ?_) (fun hb2 => ?_)
  · show own_G p e below s _ _ _ (T1.setTop (mkF m 29 #[.val (Value.ref a)] []))
    refine own_iconst X1 hx hby own_d3_29 ?_
    show own_G p e below s _ _ _ (T1.setTop (mkF m 30 #[.val (Value.ref a)] [(Value.int (0 : Int32))]))
    refine own_retN X1 hx hby hlk (t := .boolean) Bd.returns (by simp) own_d3_30 (by decide) (by decide) ?_
    refine ⟨?_, e1, N0⟩
    show some (Value.int (0 : Int32)) = some (Value.int (own_eq u0 u1 u2 (0 : Int64) (0 : Int32) (0 : Int64)))
    simp only [own_eq, if_neg hb2]
  · show own_G p e below s _ _ _ (T1.setTop (mkF m 9 #[.val (Value.ref a)] []))
    refine own_aloadN X1 hx hby own_d3_9 rfl rfl ?_
    show own_G p e below s _ _ _ (T1.setTop (mkF m 10 #[.val (Value.ref a)] [(Value.ref a)]))
    obtain ⟨T3, X3, e3, st3⟩ := getF X1 hx hZ hown (host := "") (Or.inl (own_w11 hw)) Via.refl e1 F_a_recordSize (g := (mkF m 10 #[.val (Value.ref a)] [(Value.ref a)])) rfl rfl (hb hby own_d3_10)
    refine own_st st3 ?_
    show own_G p e below s _ _ _ (T3.setTop (mkF m 13 #[.val (Value.ref a)] [(Value.int u1)]))
    refine own_if_ne X3 hx hby own_d3_13 (pc' := 29) (by decide) (by decide) (fun hb4 => ?_) (fun hb4 => ?_)
    · show own_G p e below s _ _ _ (T3.setTop (mkF m 29 #[.val (Value.ref a)] []))
      refine own_iconst X3 hx hby own_d3_29 ?_
      show own_G p e below s _ _ _ (T3.setTop (mkF m 30 #[.val (Value.ref a)] [(Value.int (0 : Int32))]))
      refine own_retN X3 hx hby hlk (t := .boolean) Bd.returns (by simp) own_d3_30 (by decide) (by decide) ?_
      refine ⟨?_, e3, N0⟩
      show some (Value.int (0 : Int32)) = some (Value.int (own_eq u0 u1 u2 (0 : Int64) (0 : Int32) (0 : Int64)))
      simp only [own_eq, if_pos hb2, if_neg hb4]
    · show own_G p e below s _ _ _ (T3.setTop (mkF m 16 #[.val (Value.ref a)] []))
      refine own_aloadN X3 hx hby own_d3_16 rfl rfl ?_
      show own_G p e below s _ _ _ (T3.setTop (mkF m 17 #[.val (Value.ref a)] [(Value.ref a)]))
      obtain ⟨T5, X5, e5, st5⟩ := getF X3 hx hZ hown (host := "") (Or.inl (own_w13 hw)) Via.refl e3 F_a_tagsCode (g := (mkF m 17 #[.val (Value.ref a)] [(Value.ref a)])) rfl rfl (hb hby own_d3_17)
      refine own_st st5 ?_
      show own_G p e below s _ _ _ (T5.setTop (mkF m 20 #[.val (Value.ref a)] [(Value.long u2)]))
      refine own_lconst X5 hx hby own_d3_20 ?_
      show own_G p e below s _ _ _ (T5.setTop (mkF m 21 #[.val (Value.ref a)] [(Value.long (0 : Int64)), (Value.long u2)]))
      refine own_lcmp_ne X5 hx hby own_d3_21 own_d3_22 (pc' := 29) (by decide) (by decide) (fun hb6 => ?_) (fun hb6 => ?_)
      · show own_G p e below s _ _ _ (T5.setTop (mkF m 29 #[.val (Value.ref a)] []))
        refine own_iconst X5 hx hby own_d3_29 ?_
        show own_G p e below s _ _ _ (T5.setTop (mkF m 30 #[.val (Value.ref a)] [(Value.int (0 : Int32))]))
        refine own_retN X5 hx hby hlk (t := .boolean) Bd.returns (by simp) own_d3_30 (by decide) (by decide) ?_
        refine ⟨?_, e5, N0⟩
        show some (Value.int (0 : Int32)) = some (Value.int (own_eq u0 u1 u2 (0 : Int64) (0 : Int32) (0 : Int64)))
        simp only [own_eq, if_pos hb2, if_pos hb4, if_neg hb6]
      · show own_G p e below s _ _ _ (T5.setTop (mkF m 25 #[.val (Value.ref a)] []))
        refine own_iconst X5 hx hby own_d3_25 ?_
        show own_G p e below s _ _ _ (T5.setTop (mkF m 26 #[.val (Value.ref a)] [(Value.int (1 : Int32))]))
        refine own_goto X5 hx hby own_d3_26 (pc' := 30) (by decide) (by decide) ?_
        show own_G p e below s _ _ _ (T5.setTop (mkF m 30 #[.val (Value.ref a)] [(Value.int (1 : Int32))]))
        refine own_retN X5 hx hby hlk (t := .boolean) Bd.returns (by simp) own_d3_30 (by decide) (by decide) ?_
        refine ⟨?_, e5, N0⟩
        show some (Value.int (1 : Int32)) = some (Value.int (own_eq u0 u1 u2 (0 : Int64) (0 : Int32) (0 : Int64)))
        simp only [own_eq, if_pos hb2, if_pos hb4, if_pos hb6]
def own_rm5_Q (Z : State) (a : Addr) (u0 : Int64) (u1 : Int32) (u2 : Int64) (h0 : Heap) (n0 : Nat) : Option Value → Heap → List Loc → Prop := fun v h L => v = some (Value.int (own_gp u0 u1)) ∧ h = h0 ∧ Fr n0 L
theorem own_rm5_ef (m : MethodId) (a : Addr)  : entryFrame m #[(Value.ref a)] 1 = mkF m 0 #[.val (Value.ref a)] [] := by first | (simp [entryFrame, mkF, argsToLocals, Value.category]; done) | rfl
set_option maxRecDepth 65536 in
set_option maxHeartbeats 40000000 in
theorem own_rm5 (l : Launch) (Z : State) (a0 : Array Value) (hw : ∀ d ∈ tables_1, d.before a0 Z = true) (ws : List Jvm.Cond) (a : Addr) (u0 : Int64) (u1 : Int32) (u2 : Int64) (h0 : Heap) (n0 : Nat) (O0 : Old Z n0 h0) (F_a_commitLogOffset : Fld Z h0 a "com/example/iron_log/ironlog/consumequeue/QueueEntry" "commitLogOffset" "J" (Value.long u0)) (F_a_recordSize : Fld Z h0 a "com/example/iron_log/ironlog/consumequeue/QueueEntry" "recordSize" "I" (Value.int u1)) (F_a_tagsCode : Fld Z h0 a "com/example/iron_log/ironlog/consumequeue/QueueEntry" "tagsCode" "J" (Value.long u2))  :
    MetFree l (⟨"com/example/iron_log/ironlog/consumequeue/QueueEntry", "givesPlace", "()Z"⟩ : MethodName) (head1 (Jvm.Cond.code (⟨"com/example/iron_log/ironlog/consumequeue/QueueEntry", "givesPlace", "()Z"⟩ : MethodName) prog_44_method_9_code 1 (some .boolean) :: ws) ({ frames := 0, cells := 0, slots := 0, locals := 0 } : Room)) (fun aa_ U => aa_ = #[(Value.ref a)] ∧ Z.Warmed39 U.vm ∧ U.heap = h0) (fun _ _ _ _ _ => True) (fun _ U o U' => ∃ v L, o = .returned v ∧ (own_rm5_Q Z a u0 u1 u2 h0 n0) v U'.heap L ∧ FrameEnd U o U' L ({ frames := 0, cells := 0, slots := 0, locals := 0 } : Room).cells ({ frames := 0, cells := 0, slots := 0, locals := 0 } : Room).slots) := by
  refine MetFree.of_bodySF (plainFor_of_name own_pn0) hisR ?_
  intro p e s m args below meth c s₁ Bd hml0 hP hK
  obtain ⟨rfl, hZ, hh⟩ := hP
  have hx := Bd.exec
  have hby := Bd.bytes
  have hml : c.maxLocals = 1 := hml0
  have hown : s.vm.findClass "com/example/iron_log/ironlog/consumequeue/QueueEntry" = some m.cls := findClass_of_methodNamed Bd.named
  have hnm := (name_of_methodNamed Bd.named Bd.method).1
  have hlk : meth.locks = false := BodyLoose.notSynchronized Bd
  have X0 : Stand p l e ({ frames := 0, cells := 0, slots := 0, locals := 0 } : Room) s m #[(Value.ref a)] below meth c s₁ [] 0 0 := Stand.of_body Bd
  have e0 : s₁.heap = h0 := by rw [← hh, Bd.state]; rfl
  have N0 := Fr.nil n0
  show own_G p e below s (own_rm5_Q Z a u0 u1 u2 h0 n0) ({ frames := 0, cells := 0, slots := 0, locals := 0 } : Room).cells ({ frames := 0, cells := 0, slots := 0, locals := 0 } : Room).slots (s₁.setTop (entryFrame m #[(Value.ref a)] 1))
  refine own_cast (own_rm5_ef m a ) ?_
  show own_G p e below s _ _ _ (s₁.setTop (mkF m 0 #[.val (Value.ref a)] []))
  refine own_aloadN X0 hx hby own_d5_0 rfl rfl ?_
  show own_G p e below s _ _ _ (s₁.setTop (mkF m 1 #[.val (Value.ref a)] [(Value.ref a)]))
  obtain ⟨T1, X1, e1, st1⟩ := getF X0 hx hZ hown (host := "") (Or.inl (own_w9 hw)) Via.refl e0 F_a_commitLogOffset (g := (mkF m 1 #[.val (Value.ref a)] [(Value.ref a)])) rfl rfl (hb hby own_d5_1)
  refine own_st st1 ?_
  show own_G p e below s _ _ _ (T1.setTop (mkF m 4 #[.val (Value.ref a)] [(Value.long u0)]))
  refine own_lconst X1 hx hby own_d5_4 ?_
  show own_G p e below s _ _ _ (T1.setTop (mkF m 5 #[.val (Value.ref a)] [(Value.long (0 : Int64)), (Value.long u0)]))
  refine own_lcmp_lt X1 hx hby own_d5_5 own_d5_6 (pc' := 20) (by decide) (by decide) (fun hb2 => ?_) (fun hb2 => ?_)
  · show own_G p e below s _ _ _ (T1.setTop (mkF m 20 #[.val (Value.ref a)] []))
    refine own_iconst X1 hx hby own_d5_20 ?_
    show own_G p e below s _ _ _ (T1.setTop (mkF m 21 #[.val (Value.ref a)] [(Value.int (0 : Int32))]))
    refine own_retN X1 hx hby hlk (t := .boolean) Bd.returns (by simp) own_d5_21 (by decide) (by decide) ?_
    refine ⟨?_, e1, N0⟩
    show some (Value.int (0 : Int32)) = some (Value.int (own_gp u0 u1))
    simp only [own_gp, if_pos hb2]
  · show own_G p e below s _ _ _ (T1.setTop (mkF m 9 #[.val (Value.ref a)] []))
    refine own_aloadN X1 hx hby own_d5_9 rfl rfl ?_
    show own_G p e below s _ _ _ (T1.setTop (mkF m 10 #[.val (Value.ref a)] [(Value.ref a)]))
    obtain ⟨T3, X3, e3, st3⟩ := getF X1 hx hZ hown (host := "") (Or.inl (own_w11 hw)) Via.refl e1 F_a_recordSize (g := (mkF m 10 #[.val (Value.ref a)] [(Value.ref a)])) rfl rfl (hb hby own_d5_10)
    refine own_st st3 ?_
    show own_G p e below s _ _ _ (T3.setTop (mkF m 13 #[.val (Value.ref a)] [(Value.int u1)]))
    refine own_if_le X3 hx hby own_d5_13 (pc' := 20) (by decide) (by decide) (fun hb4 => ?_) (fun hb4 => ?_)
    · show own_G p e below s _ _ _ (T3.setTop (mkF m 20 #[.val (Value.ref a)] []))
      refine own_iconst X3 hx hby own_d5_20 ?_
      show own_G p e below s _ _ _ (T3.setTop (mkF m 21 #[.val (Value.ref a)] [(Value.int (0 : Int32))]))
      refine own_retN X3 hx hby hlk (t := .boolean) Bd.returns (by simp) own_d5_21 (by decide) (by decide) ?_
      refine ⟨?_, e3, N0⟩
      show some (Value.int (0 : Int32)) = some (Value.int (own_gp u0 u1))
      simp only [own_gp, if_neg hb2, if_neg hb4]
    · show own_G p e below s _ _ _ (T3.setTop (mkF m 16 #[.val (Value.ref a)] []))
      refine own_iconst X3 hx hby own_d5_16 ?_
      show own_G p e below s _ _ _ (T3.setTop (mkF m 17 #[.val (Value.ref a)] [(Value.int (1 : Int32))]))
      refine own_goto X3 hx hby own_d5_17 (pc' := 21) (by decide) (by decide) ?_
      show own_G p e below s _ _ _ (T3.setTop (mkF m 21 #[.val (Value.ref a)] [(Value.int (1 : Int32))]))
      refine own_retN X3 hx hby hlk (t := .boolean) Bd.returns (by simp) own_d5_21 (by decide) (by decide) ?_
      refine ⟨?_, e3, N0⟩
      show some (Value.int (1 : Int32)) = some (Value.int (own_gp u0 u1))
      simp only [own_gp, if_neg hb2, if_pos hb4]
def own_rm6_Q (Z : State) (a : Addr) (u0 : Int64) (u1 : Int32) (u2 : Int64) (h0 : Heap) (n0 : Nat) : Option Value → Heap → List Loc → Prop := fun v h L => v = some (Value.int (own_lost u1)) ∧ h = h0 ∧ Fr n0 L
theorem own_rm6_ef (m : MethodId) (a : Addr)  : entryFrame m #[(Value.ref a)] 1 = mkF m 0 #[.val (Value.ref a)] [] := by first | (simp [entryFrame, mkF, argsToLocals, Value.category]; done) | rfl
set_option maxRecDepth 65536 in
set_option maxHeartbeats 40000000 in
theorem own_rm6 (l : Launch) (Z : State) (a0 : Array Value) (hw : ∀ d ∈ tables_1, d.before a0 Z = true) (ws : List Jvm.Cond) (a : Addr) (u0 : Int64) (u1 : Int32) (u2 : Int64) (h0 : Heap) (n0 : Nat) (O0 : Old Z n0 h0) (F_a_commitLogOffset : Fld Z h0 a "com/example/iron_log/ironlog/consumequeue/QueueEntry" "commitLogOffset" "J" (Value.long u0)) (F_a_recordSize : Fld Z h0 a "com/example/iron_log/ironlog/consumequeue/QueueEntry" "recordSize" "I" (Value.int u1)) (F_a_tagsCode : Fld Z h0 a "com/example/iron_log/ironlog/consumequeue/QueueEntry" "tagsCode" "J" (Value.long u2))  :
    MetFree l (⟨"com/example/iron_log/ironlog/consumequeue/QueueEntry", "isLost", "()Z"⟩ : MethodName) (head1 (Jvm.Cond.code (⟨"com/example/iron_log/ironlog/consumequeue/QueueEntry", "isLost", "()Z"⟩ : MethodName) prog_44_method_11_code 1 (some .boolean) :: ws) ({ frames := 0, cells := 0, slots := 0, locals := 0 } : Room)) (fun aa_ U => aa_ = #[(Value.ref a)] ∧ Z.Warmed39 U.vm ∧ U.heap = h0) (fun _ _ _ _ _ => True) (fun _ U o U' => ∃ v L, o = .returned v ∧ (own_rm6_Q Z a u0 u1 u2 h0 n0) v U'.heap L ∧ FrameEnd U o U' L ({ frames := 0, cells := 0, slots := 0, locals := 0 } : Room).cells ({ frames := 0, cells := 0, slots := 0, locals := 0 } : Room).slots) := by
  refine MetFree.of_bodySF (plainFor_of_name own_pn0) hisR ?_
  intro p e s m args below meth c s₁ Bd hml0 hP hK
  obtain ⟨rfl, hZ, hh⟩ := hP
  have hx := Bd.exec
  have hby := Bd.bytes
  have hml : c.maxLocals = 1 := hml0
  have hown : s.vm.findClass "com/example/iron_log/ironlog/consumequeue/QueueEntry" = some m.cls := findClass_of_methodNamed Bd.named
  have hnm := (name_of_methodNamed Bd.named Bd.method).1
  have hlk : meth.locks = false := BodyLoose.notSynchronized Bd
  have X0 : Stand p l e ({ frames := 0, cells := 0, slots := 0, locals := 0 } : Room) s m #[(Value.ref a)] below meth c s₁ [] 0 0 := Stand.of_body Bd
  have e0 : s₁.heap = h0 := by rw [← hh, Bd.state]; rfl
  have N0 := Fr.nil n0
  show own_G p e below s (own_rm6_Q Z a u0 u1 u2 h0 n0) ({ frames := 0, cells := 0, slots := 0, locals := 0 } : Room).cells ({ frames := 0, cells := 0, slots := 0, locals := 0 } : Room).slots (s₁.setTop (entryFrame m #[(Value.ref a)] 1))
  refine own_cast (own_rm6_ef m a ) ?_
  show own_G p e below s _ _ _ (s₁.setTop (mkF m 0 #[.val (Value.ref a)] []))
  refine own_aloadN X0 hx hby own_d6_0 rfl rfl ?_
  show own_G p e below s _ _ _ (s₁.setTop (mkF m 1 #[.val (Value.ref a)] [(Value.ref a)]))
  obtain ⟨T1, X1, e1, st1⟩ := getF X0 hx hZ hown (host := "") (Or.inl (own_w11 hw)) Via.refl e0 F_a_recordSize (g := (mkF m 1 #[.val (Value.ref a)] [(Value.ref a)])) rfl rfl (hb hby own_d6_1)
  refine own_st st1 ?_
  show own_G p e below s _ _ _ (T1.setTop (mkF m 4 #[.val (Value.ref a)] [(Value.int u1)]))
  refine own_iconst X1 hx hby own_d6_4 ?_
  show own_G p e below s _ _ _ (T1.setTop (mkF m 5 #[.val (Value.ref a)] [(Value.int (-1 : Int32)), (Value.int u1)]))
  refine own_icmp_ne X1 hx hby own_d6_5 (pc' := 12) (by decide) (by decide) (fun hb2 => ?_) (fun hb2 => ?_)
  · show own_G p e below s _ _ _ (T1.setTop (mkF m 12 #[.val (Value.ref a)] []))
    refine own_iconst X1 hx hby own_d6_12 ?_
    show own_G p e below s _ _ _ (T1.setTop (mkF m 13 #[.val (Value.ref a)] [(Value.int (0 : Int32))]))
    refine own_retN X1 hx hby hlk (t := .boolean) Bd.returns (by simp) own_d6_13 (by decide) (by decide) ?_
    refine ⟨?_, e1, N0⟩
    show some (Value.int (0 : Int32)) = some (Value.int (own_lost u1))
    simp only [own_lost, if_neg hb2]
  · show own_G p e below s _ _ _ (T1.setTop (mkF m 8 #[.val (Value.ref a)] []))
    refine own_iconst X1 hx hby own_d6_8 ?_
    show own_G p e below s _ _ _ (T1.setTop (mkF m 9 #[.val (Value.ref a)] [(Value.int (1 : Int32))]))
    refine own_goto X1 hx hby own_d6_9 (pc' := 13) (by decide) (by decide) ?_
    show own_G p e below s _ _ _ (T1.setTop (mkF m 13 #[.val (Value.ref a)] [(Value.int (1 : Int32))]))
    refine own_retN X1 hx hby hlk (t := .boolean) Bd.returns (by simp) own_d6_13 (by decide) (by decide) ?_
    refine ⟨?_, e1, N0⟩
    show some (Value.int (1 : Int32)) = some (Value.int (own_lost u1))
    simp only [own_lost, if_pos hb2]
def own_rm7_Q (Z : State) (a : Addr) (u0 : Int64) (u1 : Int32) (u2 : Int64) (h0 : Heap) (n0 : Nat) : Option Value → Heap → List Loc → Prop := fun v h L => v = some (Value.int (own_dmg u2)) ∧ h = h0 ∧ Fr n0 L
theorem own_rm7_ef (m : MethodId) (a : Addr)  : entryFrame m #[(Value.ref a)] 1 = mkF m 0 #[.val (Value.ref a)] [] := by first | (simp [entryFrame, mkF, argsToLocals, Value.category]; done) | rfl
set_option maxRecDepth 65536 in
set_option maxHeartbeats 40000000 in
theorem own_rm7 (l : Launch) (Z : State) (a0 : Array Value) (hw : ∀ d ∈ tables_1, d.before a0 Z = true) (ws : List Jvm.Cond) (a : Addr) (u0 : Int64) (u1 : Int32) (u2 : Int64) (h0 : Heap) (n0 : Nat) (O0 : Old Z n0 h0) (F_a_commitLogOffset : Fld Z h0 a "com/example/iron_log/ironlog/consumequeue/QueueEntry" "commitLogOffset" "J" (Value.long u0)) (F_a_recordSize : Fld Z h0 a "com/example/iron_log/ironlog/consumequeue/QueueEntry" "recordSize" "I" (Value.int u1)) (F_a_tagsCode : Fld Z h0 a "com/example/iron_log/ironlog/consumequeue/QueueEntry" "tagsCode" "J" (Value.long u2))  :
    MetFree l (⟨"com/example/iron_log/ironlog/consumequeue/QueueEntry", "isOfDamage", "()Z"⟩ : MethodName) (head1 (Jvm.Cond.code (⟨"com/example/iron_log/ironlog/consumequeue/QueueEntry", "isOfDamage", "()Z"⟩ : MethodName) prog_44_method_10_code 1 (some .boolean) :: ws) ({ frames := 0, cells := 0, slots := 0, locals := 0 } : Room)) (fun aa_ U => aa_ = #[(Value.ref a)] ∧ Z.Warmed39 U.vm ∧ U.heap = h0) (fun _ _ _ _ _ => True) (fun _ U o U' => ∃ v L, o = .returned v ∧ (own_rm7_Q Z a u0 u1 u2 h0 n0) v U'.heap L ∧ FrameEnd U o U' L ({ frames := 0, cells := 0, slots := 0, locals := 0 } : Room).cells ({ frames := 0, cells := 0, slots := 0, locals := 0 } : Room).slots) := by
  refine MetFree.of_bodySF (plainFor_of_name own_pn0) hisR ?_
  intro p e s m args below meth c s₁ Bd hml0 hP hK
  obtain ⟨rfl, hZ, hh⟩ := hP
  have hx := Bd.exec
  have hby := Bd.bytes
  have hml : c.maxLocals = 1 := hml0
  have hown : s.vm.findClass "com/example/iron_log/ironlog/consumequeue/QueueEntry" = some m.cls := findClass_of_methodNamed Bd.named
  have hnm := (name_of_methodNamed Bd.named Bd.method).1
  have hlk : meth.locks = false := BodyLoose.notSynchronized Bd
  have X0 : Stand p l e ({ frames := 0, cells := 0, slots := 0, locals := 0 } : Room) s m #[(Value.ref a)] below meth c s₁ [] 0 0 := Stand.of_body Bd
  have e0 : s₁.heap = h0 := by rw [← hh, Bd.state]; rfl
  have N0 := Fr.nil n0
  show own_G p e below s (own_rm7_Q Z a u0 u1 u2 h0 n0) ({ frames := 0, cells := 0, slots := 0, locals := 0 } : Room).cells ({ frames := 0, cells := 0, slots := 0, locals := 0 } : Room).slots (s₁.setTop (entryFrame m #[(Value.ref a)] 1))
  refine own_cast (own_rm7_ef m a ) ?_
  show own_G p e below s _ _ _ (s₁.setTop (mkF m 0 #[.val (Value.ref a)] []))
  refine own_aloadN X0 hx hby own_d7_0 rfl rfl ?_
  show own_G p e below s _ _ _ (s₁.setTop (mkF m 1 #[.val (Value.ref a)] [(Value.ref a)]))
  obtain ⟨T1, X1, e1, st1⟩ := getF X0 hx hZ hown (host := "") (Or.inl (own_w13 hw)) Via.refl e0 F_a_tagsCode (g := (mkF m 1 #[.val (Value.ref a)] [(Value.ref a)])) rfl rfl (hb hby own_d7_1)
  refine own_st st1 ?_
  show own_G p e below s _ _ _ (T1.setTop (mkF m 4 #[.val (Value.ref a)] [(Value.long u2)]))
  refine own_ldcJ X1 hx hby hZ hown (own_w42 hw) own_d7_4 ?_
  show own_G p e below s _ _ _ (T1.setTop (mkF m 7 #[.val (Value.ref a)] [(Value.long (-9223372036854775808 : Int64)), (Value.long u2)]))
  refine own_lcmp_ne X1 hx hby own_d7_7 own_d7_8 (pc' := 15) (by decide) (by decide) (fun hb2 => ?_) (fun hb2 => ?_)
  · show own_G p e below s _ _ _ (T1.setTop (mkF m 15 #[.val (Value.ref a)] []))
    refine own_iconst X1 hx hby own_d7_15 ?_
    show own_G p e below s _ _ _ (T1.setTop (mkF m 16 #[.val (Value.ref a)] [(Value.int (0 : Int32))]))
    refine own_retN X1 hx hby hlk (t := .boolean) Bd.returns (by simp) own_d7_16 (by decide) (by decide) ?_
    refine ⟨?_, e1, N0⟩
    show some (Value.int (0 : Int32)) = some (Value.int (own_dmg u2))
    simp only [own_dmg, if_neg hb2]
  · show own_G p e below s _ _ _ (T1.setTop (mkF m 11 #[.val (Value.ref a)] []))
    refine own_iconst X1 hx hby own_d7_11 ?_
    show own_G p e below s _ _ _ (T1.setTop (mkF m 12 #[.val (Value.ref a)] [(Value.int (1 : Int32))]))
    refine own_goto X1 hx hby own_d7_12 (pc' := 16) (by decide) (by decide) ?_
    show own_G p e below s _ _ _ (T1.setTop (mkF m 16 #[.val (Value.ref a)] [(Value.int (1 : Int32))]))
    refine own_retN X1 hx hby hlk (t := .boolean) Bd.returns (by simp) own_d7_16 (by decide) (by decide) ?_
    refine ⟨?_, e1, N0⟩
    show some (Value.int (1 : Int32)) = some (Value.int (own_dmg u2))
    simp only [own_dmg, if_pos hb2]
def own_rm4_Q (Z : State) (a : Addr) (b : Addr) (u0 : Int64) (u1 : Int32) (u2 : Int64) (v0 : Int64) (v1 : Int32) (v2 : Int64) (h0 : Heap) (n0 : Nat) : Option Value → Heap → List Loc → Prop := fun v h L => v = some (Value.int (own_eq u0 u1 u2 v0 v1 v2)) ∧ h = h0 ∧ Fr n0 L
theorem own_rm4_ef (m : MethodId) (a : Addr) (b : Addr)  : entryFrame m #[(Value.ref a), (Value.ref b)] 3 = mkF m 0 #[.val (Value.ref a), .val (Value.ref b), .unset] [] := by first | (simp [entryFrame, mkF, argsToLocals, Value.category]; done) | rfl
set_option maxRecDepth 65536 in
set_option maxHeartbeats 40000000 in
theorem own_rm4 (l : Launch) (Z : State) (a0 : Array Value) (hw : ∀ d ∈ tables_1, d.before a0 Z = true) (ws : List Jvm.Cond) (a : Addr) (b : Addr) (u0 : Int64) (u1 : Int32) (u2 : Int64) (v0 : Int64) (v1 : Int32) (v2 : Int64) (h0 : Heap) (n0 : Nat) (O0 : Old Z n0 h0) (F_a_commitLogOffset : Fld Z h0 a "com/example/iron_log/ironlog/consumequeue/QueueEntry" "commitLogOffset" "J" (Value.long u0)) (F_a_recordSize : Fld Z h0 a "com/example/iron_log/ironlog/consumequeue/QueueEntry" "recordSize" "I" (Value.int u1)) (F_a_tagsCode : Fld Z h0 a "com/example/iron_log/ironlog/consumequeue/QueueEntry" "tagsCode" "J" (Value.long u2)) (E_b : Exa Z h0 b "com/example/iron_log/ironlog/consumequeue/QueueEntry") (F_b_commitLogOffset : Fld Z h0 b "com/example/iron_log/ironlog/consumequeue/QueueEntry" "commitLogOffset" "J" (Value.long v0)) (F_b_recordSize : Fld Z h0 b "com/example/iron_log/ironlog/consumequeue/QueueEntry" "recordSize" "I" (Value.int v1)) (F_b_tagsCode : Fld Z h0 b "com/example/iron_log/ironlog/consumequeue/QueueEntry" "tagsCode" "J" (Value.long v2))  :
    MetFree l (⟨"com/example/iron_log/ironlog/consumequeue/QueueEntry", "equals", "(Ljava/lang/Object;)Z"⟩ : MethodName) (head1 (Jvm.Cond.code (⟨"com/example/iron_log/ironlog/consumequeue/QueueEntry", "equals", "(Ljava/lang/Object;)Z"⟩ : MethodName) prog_44_method_13_code 3 (some .boolean) :: ws) ({ frames := 0, cells := 0, slots := 0, locals := 0 } : Room)) (fun aa_ U => aa_ = #[(Value.ref a), (Value.ref b)] ∧ Z.Warmed39 U.vm ∧ U.heap = h0) (fun _ _ _ _ _ => True) (fun _ U o U' => ∃ v L, o = .returned v ∧ (own_rm4_Q Z a b u0 u1 u2 v0 v1 v2 h0 n0) v U'.heap L ∧ FrameEnd U o U' L ({ frames := 0, cells := 0, slots := 0, locals := 0 } : Room).cells ({ frames := 0, cells := 0, slots := 0, locals := 0 } : Room).slots) := by
  refine MetFree.of_bodySF (plainFor_of_name own_pn0) hisR ?_
  intro p e s m args below meth c s₁ Bd hml0 hP hK
  obtain ⟨rfl, hZ, hh⟩ := hP
  have hx := Bd.exec
  have hby := Bd.bytes
  have hml : c.maxLocals = 3 := hml0
  have hown : s.vm.findClass "com/example/iron_log/ironlog/consumequeue/QueueEntry" = some m.cls := findClass_of_methodNamed Bd.named
  have hnm := (name_of_methodNamed Bd.named Bd.method).1
  have hlk : meth.locks = false := BodyLoose.notSynchronized Bd
  have X0 : Stand p l e ({ frames := 0, cells := 0, slots := 0, locals := 0 } : Room) s m #[(Value.ref a), (Value.ref b)] below meth c s₁ [] 0 0 := Stand.of_body Bd
  have e0 : s₁.heap = h0 := by rw [← hh, Bd.state]; rfl
  have N0 := Fr.nil n0
  show own_G p e below s (own_rm4_Q Z a b u0 u1 u2 v0 v1 v2 h0 n0) ({ frames := 0, cells := 0, slots := 0, locals := 0 } : Room).cells ({ frames := 0, cells := 0, slots := 0, locals := 0 } : Room).slots (s₁.setTop (entryFrame m #[(Value.ref a), (Value.ref b)] 3))
  refine own_cast (own_rm4_ef m a b ) ?_
  show own_G p e below s _ _ _ (s₁.setTop (mkF m 0 #[.val (Value.ref a), .val (Value.ref b), .unset] []))
  refine own_aloadN X0 hx hby own_d4_0 rfl rfl ?_
  show own_G p e below s _ _ _ (s₁.setTop (mkF m 1 #[.val (Value.ref a), .val (Value.ref b), .unset] [(Value.ref b)]))
  obtain ⟨T1, X1, e1, st1⟩ := instY X0 hx hZ hown (own_w25 hw) e0 (Ins.self E_b) (g := (mkF m 1 #[.val (Value.ref a), .val (Value.ref b), .unset] [(Value.ref b)])) rfl rfl (hb hby own_d4_1)
  refine own_st st1 ?_
  show own_G p e below s _ _ _ (T1.setTop (mkF m 4 #[.val (Value.ref a), .val (Value.ref b), .unset] [(Value.int (1 : Int32))]))
  refine own_if_ne X1 hx hby own_d4_4 (pc' := 9) (by decide) (by decide) (fun hb2 => ?_) (fun hb2 => by exfalso; revert hb2; decide)
  show own_G p e below s _ _ _ (T1.setTop (mkF m 9 #[.val (Value.ref a), .val (Value.ref b), .unset] []))
  refine own_aloadN X1 hx hby own_d4_9 rfl rfl ?_
  show own_G p e below s _ _ _ (T1.setTop (mkF m 10 #[.val (Value.ref a), .val (Value.ref b), .unset] [(Value.ref b)]))
  obtain ⟨T3, X3, e3, st3⟩ := castY X1 hx hZ hown (own_w25 hw) e1 (Ins.self E_b) (g := (mkF m 10 #[.val (Value.ref a), .val (Value.ref b), .unset] [(Value.ref b)])) rfl rfl (hb hby own_d4_10)
  refine own_st st3 ?_
  show own_G p e below s _ _ _ (T3.setTop (mkF m 13 #[.val (Value.ref a), .val (Value.ref b), .unset] [(Value.ref b)]))
  refine own_astoreN X3 hx hby own_d4_13 rfl (l' := #[.val (Value.ref a), .val (Value.ref b), .val (Value.ref b)]) rfl ?_
  show own_G p e below s _ _ _ (T3.setTop (mkF m 14 #[.val (Value.ref a), .val (Value.ref b), .val (Value.ref b)] []))
  refine own_aloadN X3 hx hby own_d4_14 rfl rfl ?_
  show own_G p e below s _ _ _ (T3.setTop (mkF m 15 #[.val (Value.ref a), .val (Value.ref b), .val (Value.ref b)] [(Value.ref a)]))
  obtain ⟨T4, X4, e4, st4⟩ := getF X3 hx hZ hown (host := "") (Or.inl (own_w9 hw)) Via.refl e3 F_a_commitLogOffset (g := (mkF m 15 #[.val (Value.ref a), .val (Value.ref b), .val (Value.ref b)] [(Value.ref a)])) rfl rfl (hb hby own_d4_15)
  refine own_st st4 ?_
  show own_G p e below s _ _ _ (T4.setTop (mkF m 18 #[.val (Value.ref a), .val (Value.ref b), .val (Value.ref b)] [(Value.long u0)]))
  refine own_aloadN X4 hx hby own_d4_18 rfl rfl ?_
  show own_G p e below s _ _ _ (T4.setTop (mkF m 19 #[.val (Value.ref a), .val (Value.ref b), .val (Value.ref b)] [(Value.ref b), (Value.long u0)]))
  obtain ⟨T5, X5, e5, st5⟩ := getF X4 hx hZ hown (host := "") (Or.inl (own_w9 hw)) Via.refl e4 F_b_commitLogOffset (g := (mkF m 19 #[.val (Value.ref a), .val (Value.ref b), .val (Value.ref b)] [(Value.ref b), (Value.long u0)])) rfl rfl (hb hby own_d4_19)
  refine own_st st5 ?_
  show own_G p e below s _ _ _ (T5.setTop (mkF m 22 #[.val (Value.ref a), .val (Value.ref b), .val (Value.ref b)] [(Value.long v0), (Value.long u0)]))
  refine own_lcmp_ne X5 hx hby own_d4_22 own_d4_23 (pc' := 53) (by decide) (by decide) (fun hb6 => ?_) (fun hb6 => ?_)
  · show own_G p e below s _ _ _ (T5.setTop (mkF m 53 #[.val (Value.ref a), .val (Value.ref b), .val (Value.ref b)] []))
    refine own_iconst X5 hx hby own_d4_53 ?_
    show own_G p e below s _ _ _ (T5.setTop (mkF m 54 #[.val (Value.ref a), .val (Value.ref b), .val (Value.ref b)] [(Value.int (0 : Int32))]))
    refine own_retN X5 hx hby hlk (t := .boolean) Bd.returns (by simp) own_d4_54 (by decide) (by decide) ?_
    refine ⟨?_, e5, N0⟩
    show some (Value.int (0 : Int32)) = some (Value.int (own_eq u0 u1 u2 v0 v1 v2))
    simp only [own_eq, if_neg hb2, if_neg hb6]
  · show own_G p e below s _ _ _ (T5.setTop (mkF m 26 #[.val (Value.ref a), .val (Value.ref b), .val (Value.ref b)] []))
    refine own_aloadN X5 hx hby own_d4_26 rfl rfl ?_
    show own_G p e below s _ _ _ (T5.setTop (mkF m 27 #[.val (Value.ref a), .val (Value.ref b), .val (Value.ref b)] [(Value.ref a)]))
    obtain ⟨T7, X7, e7, st7⟩ := getF X5 hx hZ hown (host := "") (Or.inl (own_w11 hw)) Via.refl e5 F_a_recordSize (g := (mkF m 27 #[.val (Value.ref a), .val (Value.ref b), .val (Value.ref b)] [(Value.ref a)])) rfl rfl (hb hby own_d4_27)
    refine own_st st7 ?_
    show own_G p e below s _ _ _ (T7.setTop (mkF m 30 #[.val (Value.ref a), .val (Value.ref b), .val (Value.ref b)] [(Value.int u1)]))
    refine own_aloadN X7 hx hby own_d4_30 rfl rfl ?_
    show own_G p e below s _ _ _ (T7.setTop (mkF m 31 #[.val (Value.ref a), .val (Value.ref b), .val (Value.ref b)] [(Value.ref b), (Value.int u1)]))
    obtain ⟨T8, X8, e8, st8⟩ := getF X7 hx hZ hown (host := "") (Or.inl (own_w11 hw)) Via.refl e7 F_b_recordSize (g := (mkF m 31 #[.val (Value.ref a), .val (Value.ref b), .val (Value.ref b)] [(Value.ref b), (Value.int u1)])) rfl rfl (hb hby own_d4_31)
    refine own_st st8 ?_
    show own_G p e below s _ _ _ (T8.setTop (mkF m 34 #[.val (Value.ref a), .val (Value.ref b), .val (Value.ref b)] [(Value.int v1), (Value.int u1)]))
    refine own_icmp_ne X8 hx hby own_d4_34 (pc' := 53) (by decide) (by decide) (fun hb9 => ?_) (fun hb9 => ?_)
    · show own_G p e below s _ _ _ (T8.setTop (mkF m 53 #[.val (Value.ref a), .val (Value.ref b), .val (Value.ref b)] []))
      refine own_iconst X8 hx hby own_d4_53 ?_
      show own_G p e below s _ _ _ (T8.setTop (mkF m 54 #[.val (Value.ref a), .val (Value.ref b), .val (Value.ref b)] [(Value.int (0 : Int32))]))
      refine own_retN X8 hx hby hlk (t := .boolean) Bd.returns (by simp) own_d4_54 (by decide) (by decide) ?_
      refine ⟨?_, e8, N0⟩
      show some (Value.int (0 : Int32)) = some (Value.int (own_eq u0 u1 u2 v0 v1 v2))
      simp only [own_eq, if_neg hb2, if_pos hb6, if_neg hb9]
    · show own_G p e below s _ _ _ (T8.setTop (mkF m 37 #[.val (Value.ref a), .val (Value.ref b), .val (Value.ref b)] []))
      refine own_aloadN X8 hx hby own_d4_37 rfl rfl ?_
      show own_G p e below s _ _ _ (T8.setTop (mkF m 38 #[.val (Value.ref a), .val (Value.ref b), .val (Value.ref b)] [(Value.ref a)]))
      obtain ⟨T10, X10, e10, st10⟩ := getF X8 hx hZ hown (host := "") (Or.inl (own_w13 hw)) Via.refl e8 F_a_tagsCode (g := (mkF m 38 #[.val (Value.ref a), .val (Value.ref b), .val (Value.ref b)] [(Value.ref a)])) rfl rfl (hb hby own_d4_38)
      refine own_st st10 ?_
      show own_G p e below s _ _ _ (T10.setTop (mkF m 41 #[.val (Value.ref a), .val (Value.ref b), .val (Value.ref b)] [(Value.long u2)]))
      refine own_aloadN X10 hx hby own_d4_41 rfl rfl ?_
      show own_G p e below s _ _ _ (T10.setTop (mkF m 42 #[.val (Value.ref a), .val (Value.ref b), .val (Value.ref b)] [(Value.ref b), (Value.long u2)]))
      obtain ⟨T11, X11, e11, st11⟩ := getF X10 hx hZ hown (host := "") (Or.inl (own_w13 hw)) Via.refl e10 F_b_tagsCode (g := (mkF m 42 #[.val (Value.ref a), .val (Value.ref b), .val (Value.ref b)] [(Value.ref b), (Value.long u2)])) rfl rfl (hb hby own_d4_42)
      refine own_st st11 ?_
      show own_G p e below s _ _ _ (T11.setTop (mkF m 45 #[.val (Value.ref a), .val (Value.ref b), .val (Value.ref b)] [(Value.long v2), (Value.long u2)]))
      refine own_lcmp_ne X11 hx hby own_d4_45 own_d4_46 (pc' := 53) (by decide) (by decide) (fun hb12 => ?_) (fun hb12 => ?_)
      · show own_G p e below s _ _ _ (T11.setTop (mkF m 53 #[.val (Value.ref a), .val (Value.ref b), .val (Value.ref b)] []))
        refine own_iconst X11 hx hby own_d4_53 ?_
        show own_G p e below s _ _ _ (T11.setTop (mkF m 54 #[.val (Value.ref a), .val (Value.ref b), .val (Value.ref b)] [(Value.int (0 : Int32))]))
        refine own_retN X11 hx hby hlk (t := .boolean) Bd.returns (by simp) own_d4_54 (by decide) (by decide) ?_
        refine ⟨?_, e11, N0⟩
        show some (Value.int (0 : Int32)) = some (Value.int (own_eq u0 u1 u2 v0 v1 v2))
        simp only [own_eq, if_neg hb2, if_pos hb6, if_pos hb9, if_neg hb12]
      · show own_G p e below s _ _ _ (T11.setTop (mkF m 49 #[.val (Value.ref a), .val (Value.ref b), .val (Value.ref b)] []))
        refine own_iconst X11 hx hby own_d4_49 ?_
        show own_G p e below s _ _ _ (T11.setTop (mkF m 50 #[.val (Value.ref a), .val (Value.ref b), .val (Value.ref b)] [(Value.int (1 : Int32))]))
        refine own_goto X11 hx hby own_d4_50 (pc' := 54) (by decide) (by decide) ?_
        show own_G p e below s _ _ _ (T11.setTop (mkF m 54 #[.val (Value.ref a), .val (Value.ref b), .val (Value.ref b)] [(Value.int (1 : Int32))]))
        refine own_retN X11 hx hby hlk (t := .boolean) Bd.returns (by simp) own_d4_54 (by decide) (by decide) ?_
        refine ⟨?_, e11, N0⟩
        show some (Value.int (1 : Int32)) = some (Value.int (own_eq u0 u1 u2 v0 v1 v2))
        simp only [own_eq, if_neg hb2, if_pos hb6, if_pos hb9, if_pos hb12]
def own_rm0_Q (Z : State) (x0 : Int64) (x1 : Int32) (x2 : Int64) (x3 : Int32)  (h0 : Heap) (n0 : Nat) : Option Value → Heap → List Loc → Prop := fun v h L => v = some (.int 1) ∧ Fr n0 L
theorem own_rm0_ef (m : MethodId) (x0 : Int64) (x1 : Int32) (x2 : Int64) (x3 : Int32)  : entryFrame m #[(Value.long x0), (Value.int x1), (Value.long x2), (Value.int x3)] maxLocals = mkF m 0 #[.val (Value.long x0), .second, .val (Value.int x1), .val (Value.long x2), .second, .val (Value.int x3), .unset, .unset, .unset, .unset, .unset, .unset, .unset, .unset] [] := by first | (simp [entryFrame, mkF, argsToLocals, Value.category, maxLocals]; done) | rfl
set_option maxRecDepth 65536 in
set_option maxHeartbeats 40000000 in
theorem own_rm0 (l : Launch) (Z : State) (a0 : Array Value) (hw : ∀ d ∈ tables_1, d.before a0 Z = true) (ws : List Jvm.Cond) (x0 : Int64) (x1 : Int32) (x2 : Int64) (x3 : Int32)  (h0 : Heap) (n0 : Nat) (O0 : Old Z n0 h0)  :
    MetFree l x (head1 (Jvm.Cond.code x code maxLocals ret :: ws) room_1) (fun aa_ U => aa_ = #[(Value.long x0), (Value.int x1), (Value.long x2), (Value.int x3)] ∧ Z.Warmed39 U.vm ∧ U.heap = h0) (fun _ _ _ _ _ => True) (fun _ U o U' => ∃ v L, o = .returned v ∧ (own_rm0_Q Z x0 x1 x2 x3 h0 n0) v U'.heap L ∧ FrameEnd U o U' L 16 128) := by
  refine MetFree.of_bodySF (plainFor_of_name own_pn1) hisR ?_
  intro p e s m args below meth c s₁ Bd hml0 hP hK
  obtain ⟨rfl, hZ, hh⟩ := hP
  have hx := Bd.exec
  have hby := Bd.bytes
  have hml : c.maxLocals = 14 := hml0
  have hown : s.vm.findClass "com/example/iron_log/ironlog/consumequeue/QueueEntryIsUnwrittenPinLaw" = some m.cls := findClass_of_methodNamed Bd.named
  have hnm := (name_of_methodNamed Bd.named Bd.method).1
  have hlk : meth.locks = false := BodyLoose.notSynchronized Bd
  have X0 : Stand p l e room_1 s m #[(Value.long x0), (Value.int x1), (Value.long x2), (Value.int x3)] below meth c s₁ [] 0 0 := Stand.of_body Bd
  have e0 : s₁.heap = h0 := by rw [← hh, Bd.state]; rfl
  have N0 := Fr.nil n0
  show own_G p e below s (own_rm0_Q Z x0 x1 x2 x3 h0 n0) 16 128 (s₁.setTop (entryFrame m #[(Value.long x0), (Value.int x1), (Value.long x2), (Value.int x3)] maxLocals))
  refine own_cast (own_rm0_ef m x0 x1 x2 x3 ) ?_
  have Jn : ∀ (o : Int64) (z : Int32) (t : Int64), own_G p e below s (own_rm0_Q Z x0 x1 x2 x3 h0 n0) 16 128 (s₁.setTop (mkF m 42 #[.val (Value.long x0), .second, .val (Value.int x1), .val (Value.long x2), .second, .val (Value.int x3), .val (Value.long o), .second, .val (Value.int z), .val (Value.long t), .second, .unset, .unset, .unset] [])) := by
    intro o z t
    show own_G p e below s _ _ _ (s₁.setTop (mkF m 42 #[.val (Value.long x0), .second, .val (Value.int x1), .val (Value.long x2), .second, .val (Value.int x3), .val (Value.long o), .second, .val (Value.int z), .val (Value.long t), .second, .unset, .unset, .unset] []))
    obtain ⟨T1, h1, X1, e1, E1, A1, D1, -, st1⟩ := newO X0 hx hZ hown (own_w0 hw) (own_w1 hw) (own_w2 hw) e0 (g := (mkF m 42 #[.val (Value.long x0), .second, .val (Value.int x1), .val (Value.long x2), .second, .val (Value.int x3), .val (Value.long o), .second, .val (Value.int z), .val (Value.long t), .second, .unset, .unset, .unset] [])) rfl (hb hby at_42) (by decide) (by decide)
    obtain ⟨b1, g1⟩ : ∃ z, z = h0.size := ⟨_, rfl⟩
    rw [← g1] at A1 D1 st1
    have O2 := Old.ext O0 E1
    have g1n : n0 ≤ b1 := by rw [g1]; exact O0.1 ▸ O0.2.1
    have F1_commitLogOffset : Fld Z h1 b1 "com/example/iron_log/ironlog/consumequeue/QueueEntry" "commitLogOffset" "J" (Value.long (0 : Int64)) := D1 (Or.inr (own_w10 hw)) (ty := .long) (by decide)
    have F1_recordSize : Fld Z h1 b1 "com/example/iron_log/ironlog/consumequeue/QueueEntry" "recordSize" "I" (Value.int (0 : Int32)) := D1 (Or.inr (own_w12 hw)) (ty := .int) (by decide)
    have F1_tagsCode : Fld Z h1 b1 "com/example/iron_log/ironlog/consumequeue/QueueEntry" "tagsCode" "J" (Value.long (0 : Int64)) := D1 (Or.inr (own_w14 hw)) (ty := .long) (by decide)
    refine own_st st1 ?_
    show own_G p e below s _ _ _ (T1.setTop (mkF m 45 #[.val (Value.long x0), .second, .val (Value.int x1), .val (Value.long x2), .second, .val (Value.int x3), .val (Value.long o), .second, .val (Value.int z), .val (Value.long t), .second, .unset, .unset, .unset] [(Value.ref b1)]))
    refine own_dup X1 hx hby at_45 rfl ?_
    show own_G p e below s _ _ _ (T1.setTop (mkF m 46 #[.val (Value.long x0), .second, .val (Value.int x1), .val (Value.long x2), .second, .val (Value.int x3), .val (Value.long o), .second, .val (Value.int z), .val (Value.long t), .second, .unset, .unset, .unset] [(Value.ref b1), (Value.ref b1)]))
    refine own_lload X1 hx hby at_46 rfl ?_
    show own_G p e below s _ _ _ (T1.setTop (mkF m 48 #[.val (Value.long x0), .second, .val (Value.int x1), .val (Value.long x2), .second, .val (Value.int x3), .val (Value.long o), .second, .val (Value.int z), .val (Value.long t), .second, .unset, .unset, .unset] [(Value.long o), (Value.ref b1), (Value.ref b1)]))
    refine own_iload X1 hx hby at_48 rfl ?_
    show own_G p e below s _ _ _ (T1.setTop (mkF m 50 #[.val (Value.long x0), .second, .val (Value.int x1), .val (Value.long x2), .second, .val (Value.int x3), .val (Value.long o), .second, .val (Value.int z), .val (Value.long t), .second, .unset, .unset, .unset] [(Value.int z), (Value.long o), (Value.ref b1), (Value.ref b1)]))
    refine own_lload X1 hx hby at_50 rfl ?_
    show own_G p e below s _ _ _ (T1.setTop (mkF m 52 #[.val (Value.long x0), .second, .val (Value.int x1), .val (Value.long x2), .second, .val (Value.int x3), .val (Value.long o), .second, .val (Value.int z), .val (Value.long t), .second, .unset, .unset, .unset] [(Value.long t), (Value.int z), (Value.long o), (Value.ref b1), (Value.ref b1)]))
    obtain ⟨_, _, ⟨T3, L3, k3, n3⟩, -, X3, ⟨Lc3, hQ3, l3, y3, z3⟩, st3⟩ := X1.specialBack hx (y := (⟨"com/example/iron_log/ironlog/consumequeue/QueueEntry", "<init>", "(JIJ)V"⟩ : MethodName)) rfl hown (mvT hZ (own_w3 hw)) (mvT hZ (own_w4 hw)) (mvT hZ (own_w5 hw)) (by decide) (backOf (W := 1) (own_rm1 l Z a0 hw [] b1 o z t  h1 n0 O2  A1 F1_commitLogOffset F1_recordSize F1_tagsCode g1n) hZ (own_w5 hw) (own_w2 hw) (by decide) (by decide)) (g := (mkF m 52 #[.val (Value.long x0), .second, .val (Value.int x1), .val (Value.long x2), .second, .val (Value.int x3), .val (Value.long o), .second, .val (Value.int z), .val (Value.long t), .second, .unset, .unset, .unset] [(Value.long t), (Value.int z), (Value.long o), (Value.ref b1), (Value.ref b1)])) rfl (by rw [hml]; rfl) (Steps.refl _) (a := b1) (argsL := [(Value.long o), (Value.int z), (Value.long t)]) (rest := [(Value.ref b1)]) (lenOf own_pd0 rfl) rfl (by show 2 * 0 + _ ≤ _; exact Nat.le_of_eq rfl) (hb hby at_52) (fun _ _ => ⟨rfl, e1, (by decide : (1 : Nat) + 0 ≤ _), (by decide : (3 : Nat) + 0 ≤ _)⟩)
    dsimp only [Pt.U, Pt.locs, Pt.cells, Pt.slots] at X3 l3 y3 z3 st3 hQ3
    subst l3 y3 z3
    obtain ⟨rfl, Nq3, Kq3, Eq3, Fq3_commitLogOffset, Fq3_recordSize, Fq3_tagsCode⟩ := hQ3
    have N3 := Fr.app N0 Nq3
    have E4_b1 := Exa.keep A1 Kq3
    have O4 := Old.keep O2 Kq3 (allS g1n all0)
    refine own_tr st3 ?_
    show own_G p e below s _ _ _ (T3.setTop (mkF m 55 #[.val (Value.long x0), .second, .val (Value.int x1), .val (Value.long x2), .second, .val (Value.int x3), .val (Value.long o), .second, .val (Value.int z), .val (Value.long t), .second, .unset, .unset, .unset] [(Value.ref b1)]))
    refine own_astore X3 hx hby at_55 rfl (l' := #[.val (Value.long x0), .second, .val (Value.int x1), .val (Value.long x2), .second, .val (Value.int x3), .val (Value.long o), .second, .val (Value.int z), .val (Value.long t), .second, .val (Value.ref b1), .unset, .unset]) rfl ?_
    show own_G p e below s _ _ _ (T3.setTop (mkF m 57 #[.val (Value.long x0), .second, .val (Value.int x1), .val (Value.long x2), .second, .val (Value.int x3), .val (Value.long o), .second, .val (Value.int z), .val (Value.long t), .second, .val (Value.ref b1), .unset, .unset] []))
    obtain ⟨T5, h5, X5, e5, E5, A5, D5, -, st5⟩ := newO X3 hx hZ hown (own_w0 hw) (own_w1 hw) (own_w2 hw) rfl (g := (mkF m 57 #[.val (Value.long x0), .second, .val (Value.int x1), .val (Value.long x2), .second, .val (Value.int x3), .val (Value.long o), .second, .val (Value.int z), .val (Value.long t), .second, .val (Value.ref b1), .unset, .unset] [])) rfl (hb hby at_57) (by decide) (by decide)
    obtain ⟨b5, g5⟩ : ∃ z, z = T3.heap.size := ⟨_, rfl⟩
    rw [← g5] at A5 D5 st5
    have ne5_b1 : b1 ≠ b5 := by rw [g5]; exact Nat.ne_of_lt Fq3_commitLogOffset.lt
    have F6_b1_commitLogOffset := Fld.ext E5 Fq3_commitLogOffset
    have F6_b1_recordSize := Fld.ext E5 Fq3_recordSize
    have F6_b1_tagsCode := Fld.ext E5 Fq3_tagsCode
    have E6_b1 := Exa.ext E5 Eq3
    have O6 := Old.ext O4 E5
    have g5n : n0 ≤ b5 := by rw [g5]; exact O4.1 ▸ O4.2.1
    have F5_commitLogOffset : Fld Z h5 b5 "com/example/iron_log/ironlog/consumequeue/QueueEntry" "commitLogOffset" "J" (Value.long (0 : Int64)) := D5 (Or.inr (own_w10 hw)) (ty := .long) (by decide)
    have F5_recordSize : Fld Z h5 b5 "com/example/iron_log/ironlog/consumequeue/QueueEntry" "recordSize" "I" (Value.int (0 : Int32)) := D5 (Or.inr (own_w12 hw)) (ty := .int) (by decide)
    have F5_tagsCode : Fld Z h5 b5 "com/example/iron_log/ironlog/consumequeue/QueueEntry" "tagsCode" "J" (Value.long (0 : Int64)) := D5 (Or.inr (own_w14 hw)) (ty := .long) (by decide)
    refine own_st st5 ?_
    show own_G p e below s _ _ _ (T5.setTop (mkF m 60 #[.val (Value.long x0), .second, .val (Value.int x1), .val (Value.long x2), .second, .val (Value.int x3), .val (Value.long o), .second, .val (Value.int z), .val (Value.long t), .second, .val (Value.ref b1), .unset, .unset] [(Value.ref b5)]))
    refine own_dup X5 hx hby at_60 rfl ?_
    show own_G p e below s _ _ _ (T5.setTop (mkF m 61 #[.val (Value.long x0), .second, .val (Value.int x1), .val (Value.long x2), .second, .val (Value.int x3), .val (Value.long o), .second, .val (Value.int z), .val (Value.long t), .second, .val (Value.ref b1), .unset, .unset] [(Value.ref b5), (Value.ref b5)]))
    refine own_lconst X5 hx hby at_61 ?_
    show own_G p e below s _ _ _ (T5.setTop (mkF m 62 #[.val (Value.long x0), .second, .val (Value.int x1), .val (Value.long x2), .second, .val (Value.int x3), .val (Value.long o), .second, .val (Value.int z), .val (Value.long t), .second, .val (Value.ref b1), .unset, .unset] [(Value.long (0 : Int64)), (Value.ref b5), (Value.ref b5)]))
    refine own_iconst X5 hx hby at_62 ?_
    show own_G p e below s _ _ _ (T5.setTop (mkF m 63 #[.val (Value.long x0), .second, .val (Value.int x1), .val (Value.long x2), .second, .val (Value.int x3), .val (Value.long o), .second, .val (Value.int z), .val (Value.long t), .second, .val (Value.ref b1), .unset, .unset] [(Value.int (0 : Int32)), (Value.long (0 : Int64)), (Value.ref b5), (Value.ref b5)]))
    refine own_lconst X5 hx hby at_63 ?_
    show own_G p e below s _ _ _ (T5.setTop (mkF m 64 #[.val (Value.long x0), .second, .val (Value.int x1), .val (Value.long x2), .second, .val (Value.int x3), .val (Value.long o), .second, .val (Value.int z), .val (Value.long t), .second, .val (Value.ref b1), .unset, .unset] [(Value.long (0 : Int64)), (Value.int (0 : Int32)), (Value.long (0 : Int64)), (Value.ref b5), (Value.ref b5)]))
    obtain ⟨_, _, ⟨T7, L7, k7, n7⟩, -, X7, ⟨Lc7, hQ7, l7, y7, z7⟩, st7⟩ := X5.specialBack hx (y := (⟨"com/example/iron_log/ironlog/consumequeue/QueueEntry", "<init>", "(JIJ)V"⟩ : MethodName)) rfl hown (mvT hZ (own_w3 hw)) (mvT hZ (own_w4 hw)) (mvT hZ (own_w5 hw)) (by decide) (backOf (W := 1) (own_rm1 l Z a0 hw [] b5 (0 : Int64) (0 : Int32) (0 : Int64)  h5 n0 O6  A5 F5_commitLogOffset F5_recordSize F5_tagsCode g5n) hZ (own_w5 hw) (own_w2 hw) (by decide) (by decide)) (g := (mkF m 64 #[.val (Value.long x0), .second, .val (Value.int x1), .val (Value.long x2), .second, .val (Value.int x3), .val (Value.long o), .second, .val (Value.int z), .val (Value.long t), .second, .val (Value.ref b1), .unset, .unset] [(Value.long (0 : Int64)), (Value.int (0 : Int32)), (Value.long (0 : Int64)), (Value.ref b5), (Value.ref b5)])) rfl (by rw [hml]; rfl) (Steps.refl _) (a := b5) (argsL := [(Value.long (0 : Int64)), (Value.int (0 : Int32)), (Value.long (0 : Int64))]) (rest := [(Value.ref b5)]) (lenOf own_pd0 rfl) rfl (by show 2 * 0 + _ ≤ _; exact Nat.le_of_eq rfl) (hb hby at_64) (fun _ _ => ⟨rfl, e5, (by decide : (2 : Nat) + 0 ≤ _), (by decide : (6 : Nat) + 0 ≤ _)⟩)
    dsimp only [Pt.U, Pt.locs, Pt.cells, Pt.slots] at X7 l7 y7 z7 st7 hQ7
    subst l7 y7 z7
    obtain ⟨rfl, Nq7, Kq7, Eq7, Fq7_commitLogOffset, Fq7_recordSize, Fq7_tagsCode⟩ := hQ7
    have N7 := Fr.app N3 Nq7
    have F8_b1_commitLogOffset := Fld.keep F6_b1_commitLogOffset Kq7 (ninS ne5_b1 nin0)
    have F8_b1_recordSize := Fld.keep F6_b1_recordSize Kq7 (ninS ne5_b1 nin0)
    have F8_b1_tagsCode := Fld.keep F6_b1_tagsCode Kq7 (ninS ne5_b1 nin0)
    have E8_b1 := Exa.keep E6_b1 Kq7
    have E8_b5 := Exa.keep A5 Kq7
    have O8 := Old.keep O6 Kq7 (allS g5n all0)
    refine own_tr st7 ?_
    show own_G p e below s _ _ _ (T7.setTop (mkF m 67 #[.val (Value.long x0), .second, .val (Value.int x1), .val (Value.long x2), .second, .val (Value.int x3), .val (Value.long o), .second, .val (Value.int z), .val (Value.long t), .second, .val (Value.ref b1), .unset, .unset] [(Value.ref b5)]))
    refine own_astore X7 hx hby at_67 rfl (l' := #[.val (Value.long x0), .second, .val (Value.int x1), .val (Value.long x2), .second, .val (Value.int x3), .val (Value.long o), .second, .val (Value.int z), .val (Value.long t), .second, .val (Value.ref b1), .val (Value.ref b5), .unset]) rfl ?_
    show own_G p e below s _ _ _ (T7.setTop (mkF m 69 #[.val (Value.long x0), .second, .val (Value.int x1), .val (Value.long x2), .second, .val (Value.int x3), .val (Value.long o), .second, .val (Value.int z), .val (Value.long t), .second, .val (Value.ref b1), .val (Value.ref b5), .unset] []))
    refine own_aload X7 hx hby at_69 rfl rfl ?_
    show own_G p e below s _ _ _ (T7.setTop (mkF m 71 #[.val (Value.long x0), .second, .val (Value.int x1), .val (Value.long x2), .second, .val (Value.int x3), .val (Value.long o), .second, .val (Value.int z), .val (Value.long t), .second, .val (Value.ref b1), .val (Value.ref b5), .unset] [(Value.ref b1)]))
    obtain ⟨cq9, kq9, q9a, q9b, q9c⟩ := isOf (T := T7) hZ rfl E8_b1
    obtain ⟨_, _, ⟨T9, L9, k9, n9⟩, -, X9, ⟨Lc9, hQ9, l9, y9, z9⟩, st9⟩ := X7.virtualBack hx (y := (⟨"com/example/iron_log/ironlog/consumequeue/QueueEntry", "isUnwritten", "()Z"⟩ : MethodName)) (z := (⟨"com/example/iron_log/ironlog/consumequeue/QueueEntry", "isUnwritten", "()Z"⟩ : MethodName)) hown (mvT hZ (own_w15 hw)) (mvT hZ (own_w16 hw)) (notFace_of_selects (args := #[]) (mvT hZ (own_w18 hw))) (mvT hZ (own_w18 hw)) (mvT hZ (own_w17 hw)) (by decide) (backOf (W := 0) (own_rm3 l Z a0 hw [] b1 o z t T7.heap n0 O8  F8_b1_commitLogOffset F8_b1_recordSize F8_b1_tagsCode) hZ (own_w19 hw) (own_w2 hw) (by decide) (by decide)) q9a q9c (g := (mkF m 71 #[.val (Value.long x0), .second, .val (Value.int x1), .val (Value.long x2), .second, .val (Value.int x3), .val (Value.long o), .second, .val (Value.int z), .val (Value.long t), .second, .val (Value.ref b1), .val (Value.ref b5), .unset] [(Value.ref b1)])) rfl (by rw [hml]; rfl) (Steps.refl _) (argsL := []) (rest := []) (lenOf own_pd1 rfl) rfl (by show 2 * 0 + _ ≤ _; exact Nat.le_of_eq rfl) (hb hby at_71) (fun _ _ => ⟨rfl, rfl, (by decide : (2 : Nat) + 0 ≤ _), (by decide : (6 : Nat) + 0 ≤ _)⟩)
    dsimp only [Pt.U, Pt.locs, Pt.cells, Pt.slots] at X9 l9 y9 z9 st9 hQ9
    subst l9 y9 z9
    obtain ⟨rfl, e9, Nq9⟩ := hQ9
    have N9 := Fr.app N7 Nq9
    refine own_tr st9 ?_
    show own_G p e below s _ _ _ (T9.setTop (mkF m 74 #[.val (Value.long x0), .second, .val (Value.int x1), .val (Value.long x2), .second, .val (Value.int x3), .val (Value.long o), .second, .val (Value.int z), .val (Value.long t), .second, .val (Value.ref b1), .val (Value.ref b5), .unset] [(Value.int (own_eq o z t (0 : Int64) (0 : Int32) (0 : Int64)))]))
    refine own_istore X9 hx hby at_74 (l' := #[.val (Value.long x0), .second, .val (Value.int x1), .val (Value.long x2), .second, .val (Value.int x3), .val (Value.long o), .second, .val (Value.int z), .val (Value.long t), .second, .val (Value.ref b1), .val (Value.ref b5), .val (Value.int (own_eq o z t (0 : Int64) (0 : Int32) (0 : Int64)))]) rfl ?_
    show own_G p e below s _ _ _ (T9.setTop (mkF m 76 #[.val (Value.long x0), .second, .val (Value.int x1), .val (Value.long x2), .second, .val (Value.int x3), .val (Value.long o), .second, .val (Value.int z), .val (Value.long t), .second, .val (Value.ref b1), .val (Value.ref b5), .val (Value.int (own_eq o z t (0 : Int64) (0 : Int32) (0 : Int64)))] []))
    refine own_iload X9 hx hby at_76 rfl ?_
    show own_G p e below s _ _ _ (T9.setTop (mkF m 78 #[.val (Value.long x0), .second, .val (Value.int x1), .val (Value.long x2), .second, .val (Value.int x3), .val (Value.long o), .second, .val (Value.int z), .val (Value.long t), .second, .val (Value.ref b1), .val (Value.ref b5), .val (Value.int (own_eq o z t (0 : Int64) (0 : Int32) (0 : Int64)))] [(Value.int (own_eq o z t (0 : Int64) (0 : Int32) (0 : Int64)))]))
    refine own_aload X9 hx hby at_78 rfl rfl ?_
    show own_G p e below s _ _ _ (T9.setTop (mkF m 80 #[.val (Value.long x0), .second, .val (Value.int x1), .val (Value.long x2), .second, .val (Value.int x3), .val (Value.long o), .second, .val (Value.int z), .val (Value.long t), .second, .val (Value.ref b1), .val (Value.ref b5), .val (Value.int (own_eq o z t (0 : Int64) (0 : Int32) (0 : Int64)))] [(Value.ref b1), (Value.int (own_eq o z t (0 : Int64) (0 : Int32) (0 : Int64)))]))
    refine own_aload X9 hx hby at_80 rfl rfl ?_
    show own_G p e below s _ _ _ (T9.setTop (mkF m 82 #[.val (Value.long x0), .second, .val (Value.int x1), .val (Value.long x2), .second, .val (Value.int x3), .val (Value.long o), .second, .val (Value.int z), .val (Value.long t), .second, .val (Value.ref b1), .val (Value.ref b5), .val (Value.int (own_eq o z t (0 : Int64) (0 : Int32) (0 : Int64)))] [(Value.ref b5), (Value.ref b1), (Value.int (own_eq o z t (0 : Int64) (0 : Int32) (0 : Int64)))]))
    obtain ⟨cq10, kq10, q10a, q10b, q10c⟩ := isOf (T := T9) hZ e9 E8_b1
    obtain ⟨_, _, ⟨T10, L10, k10, n10⟩, -, X10, ⟨Lc10, hQ10, l10, y10, z10⟩, st10⟩ := X9.virtualBack hx (y := (⟨"com/example/iron_log/ironlog/consumequeue/QueueEntry", "equals", "(Ljava/lang/Object;)Z"⟩ : MethodName)) (z := (⟨"com/example/iron_log/ironlog/consumequeue/QueueEntry", "equals", "(Ljava/lang/Object;)Z"⟩ : MethodName)) hown (mvT hZ (own_w20 hw)) (mvT hZ (own_w21 hw)) (notFace_of_selects (args := #[]) (mvT hZ (own_w23 hw))) (mvT hZ (own_w23 hw)) (mvT hZ (own_w22 hw)) (by decide) (backOf (W := 1) (own_rm4 l Z a0 hw [] b1 b5 o z t (0 : Int64) (0 : Int32) (0 : Int64) T7.heap n0 O8  F8_b1_commitLogOffset F8_b1_recordSize F8_b1_tagsCode Eq7 Fq7_commitLogOffset Fq7_recordSize Fq7_tagsCode) hZ (own_w24 hw) (own_w2 hw) (by decide) (by decide)) q10a q10c (g := (mkF m 82 #[.val (Value.long x0), .second, .val (Value.int x1), .val (Value.long x2), .second, .val (Value.int x3), .val (Value.long o), .second, .val (Value.int z), .val (Value.long t), .second, .val (Value.ref b1), .val (Value.ref b5), .val (Value.int (own_eq o z t (0 : Int64) (0 : Int32) (0 : Int64)))] [(Value.ref b5), (Value.ref b1), (Value.int (own_eq o z t (0 : Int64) (0 : Int32) (0 : Int64)))])) rfl (by rw [hml]; rfl) (Steps.refl _) (argsL := [(Value.ref b5)]) (rest := [(Value.int (own_eq o z t (0 : Int64) (0 : Int32) (0 : Int64)))]) (lenOf own_pd2 rfl) rfl (by show 2 * 0 + _ ≤ _; exact Nat.le_of_eq rfl) (hb hby at_82) (fun _ _ => ⟨rfl, e9, (by decide : (2 : Nat) + 0 ≤ _), (by decide : (6 : Nat) + 0 ≤ _)⟩)
    dsimp only [Pt.U, Pt.locs, Pt.cells, Pt.slots] at X10 l10 y10 z10 st10 hQ10
    subst l10 y10 z10
    obtain ⟨rfl, e10, Nq10⟩ := hQ10
    have N10 := Fr.app N9 Nq10
    refine own_tr st10 ?_
    show own_G p e below s _ _ _ (T10.setTop (mkF m 85 #[.val (Value.long x0), .second, .val (Value.int x1), .val (Value.long x2), .second, .val (Value.int x3), .val (Value.long o), .second, .val (Value.int z), .val (Value.long t), .second, .val (Value.ref b1), .val (Value.ref b5), .val (Value.int (own_eq o z t (0 : Int64) (0 : Int32) (0 : Int64)))] [(Value.int (own_eq o z t (0 : Int64) (0 : Int32) (0 : Int64))), (Value.int (own_eq o z t (0 : Int64) (0 : Int32) (0 : Int64)))]))
    refine own_icmp_eq X10 hx hby at_85 (pc' := 90) (by decide) (by decide) (fun hb11 => ?_) (fun hb11 => by exfalso; exact hb11 rfl)
    show own_G p e below s _ _ _ (T10.setTop (mkF m 90 #[.val (Value.long x0), .second, .val (Value.int x1), .val (Value.long x2), .second, .val (Value.int x3), .val (Value.long o), .second, .val (Value.int z), .val (Value.long t), .second, .val (Value.ref b1), .val (Value.ref b5), .val (Value.int (own_eq o z t (0 : Int64) (0 : Int32) (0 : Int64)))] []))
    refine own_iload X10 hx hby at_90 rfl ?_
    show own_G p e below s _ _ _ (T10.setTop (mkF m 92 #[.val (Value.long x0), .second, .val (Value.int x1), .val (Value.long x2), .second, .val (Value.int x3), .val (Value.long o), .second, .val (Value.int z), .val (Value.long t), .second, .val (Value.ref b1), .val (Value.ref b5), .val (Value.int (own_eq o z t (0 : Int64) (0 : Int32) (0 : Int64)))] [(Value.int (own_eq o z t (0 : Int64) (0 : Int32) (0 : Int64)))]))
    refine own_if_eq X10 hx hby at_92 (pc' := 121) (by decide) (by decide) (fun hb12 => ?_) (fun hb12 => ?_)
    · show own_G p e below s _ _ _ (T10.setTop (mkF m 121 #[.val (Value.long x0), .second, .val (Value.int x1), .val (Value.long x2), .second, .val (Value.int x3), .val (Value.long o), .second, .val (Value.int z), .val (Value.long t), .second, .val (Value.ref b1), .val (Value.ref b5), .val (Value.int (own_eq o z t (0 : Int64) (0 : Int32) (0 : Int64)))] []))
      refine own_iconst X10 hx hby at_121 ?_
      show own_G p e below s _ _ _ (T10.setTop (mkF m 122 #[.val (Value.long x0), .second, .val (Value.int x1), .val (Value.long x2), .second, .val (Value.int x3), .val (Value.long o), .second, .val (Value.int z), .val (Value.long t), .second, .val (Value.ref b1), .val (Value.ref b5), .val (Value.int (own_eq o z t (0 : Int64) (0 : Int32) (0 : Int64)))] [(Value.int (1 : Int32))]))
      refine own_retN X10 hx hby hlk (t := .boolean) Bd.returns (by simp) at_122 (by decide) (by decide) ?_
      exact ⟨rfl, N10⟩
    · show own_G p e below s _ _ _ (T10.setTop (mkF m 95 #[.val (Value.long x0), .second, .val (Value.int x1), .val (Value.long x2), .second, .val (Value.int x3), .val (Value.long o), .second, .val (Value.int z), .val (Value.long t), .second, .val (Value.ref b1), .val (Value.ref b5), .val (Value.int (own_eq o z t (0 : Int64) (0 : Int32) (0 : Int64)))] []))
      refine own_aload X10 hx hby at_95 rfl rfl ?_
      show own_G p e below s _ _ _ (T10.setTop (mkF m 97 #[.val (Value.long x0), .second, .val (Value.int x1), .val (Value.long x2), .second, .val (Value.int x3), .val (Value.long o), .second, .val (Value.int z), .val (Value.long t), .second, .val (Value.ref b1), .val (Value.ref b5), .val (Value.int (own_eq o z t (0 : Int64) (0 : Int32) (0 : Int64)))] [(Value.ref b1)]))
      obtain ⟨cq13, kq13, q13a, q13b, q13c⟩ := isOf (T := T10) hZ e10 E8_b1
      obtain ⟨_, _, ⟨T13, L13, k13, n13⟩, -, X13, ⟨Lc13, hQ13, l13, y13, z13⟩, st13⟩ := X10.virtualBack hx (y := (⟨"com/example/iron_log/ironlog/consumequeue/QueueEntry", "givesPlace", "()Z"⟩ : MethodName)) (z := (⟨"com/example/iron_log/ironlog/consumequeue/QueueEntry", "givesPlace", "()Z"⟩ : MethodName)) hown (mvT hZ (own_w27 hw)) (mvT hZ (own_w28 hw)) (notFace_of_selects (args := #[]) (mvT hZ (own_w30 hw))) (mvT hZ (own_w30 hw)) (mvT hZ (own_w29 hw)) (by decide) (backOf (W := 0) (own_rm5 l Z a0 hw [] b1 o z t T7.heap n0 O8  F8_b1_commitLogOffset F8_b1_recordSize F8_b1_tagsCode) hZ (own_w31 hw) (own_w2 hw) (by decide) (by decide)) q13a q13c (g := (mkF m 97 #[.val (Value.long x0), .second, .val (Value.int x1), .val (Value.long x2), .second, .val (Value.int x3), .val (Value.long o), .second, .val (Value.int z), .val (Value.long t), .second, .val (Value.ref b1), .val (Value.ref b5), .val (Value.int (own_eq o z t (0 : Int64) (0 : Int32) (0 : Int64)))] [(Value.ref b1)])) rfl (by rw [hml]; rfl) (Steps.refl _) (argsL := []) (rest := []) (lenOf own_pd1 rfl) rfl (by show 2 * 0 + _ ≤ _; exact Nat.le_of_eq rfl) (hb hby at_97) (fun _ _ => ⟨rfl, e10, (by decide : (2 : Nat) + 0 ≤ _), (by decide : (6 : Nat) + 0 ≤ _)⟩)
      dsimp only [Pt.U, Pt.locs, Pt.cells, Pt.slots] at X13 l13 y13 z13 st13 hQ13
      subst l13 y13 z13
      obtain ⟨rfl, e13, Nq13⟩ := hQ13
      have N13 := Fr.app N10 Nq13
      refine own_tr st13 ?_
      show own_G p e below s _ _ _ (T13.setTop (mkF m 100 #[.val (Value.long x0), .second, .val (Value.int x1), .val (Value.long x2), .second, .val (Value.int x3), .val (Value.long o), .second, .val (Value.int z), .val (Value.long t), .second, .val (Value.ref b1), .val (Value.ref b5), .val (Value.int (own_eq o z t (0 : Int64) (0 : Int32) (0 : Int64)))] [(Value.int (own_gp o z))]))
      refine own_if_ne X13 hx hby at_100 (pc' := 119) (by decide) (by decide) (fun hb14 => by exfalso; obtain ⟨q1, q2, q3⟩ := own_eq0 hb12; subst q1 q2 q3; revert hb14; decide) (fun hb14 => ?_)
      show own_G p e below s _ _ _ (T13.setTop (mkF m 103 #[.val (Value.long x0), .second, .val (Value.int x1), .val (Value.long x2), .second, .val (Value.int x3), .val (Value.long o), .second, .val (Value.int z), .val (Value.long t), .second, .val (Value.ref b1), .val (Value.ref b5), .val (Value.int (own_eq o z t (0 : Int64) (0 : Int32) (0 : Int64)))] []))
      refine own_aload X13 hx hby at_103 rfl rfl ?_
      show own_G p e below s _ _ _ (T13.setTop (mkF m 105 #[.val (Value.long x0), .second, .val (Value.int x1), .val (Value.long x2), .second, .val (Value.int x3), .val (Value.long o), .second, .val (Value.int z), .val (Value.long t), .second, .val (Value.ref b1), .val (Value.ref b5), .val (Value.int (own_eq o z t (0 : Int64) (0 : Int32) (0 : Int64)))] [(Value.ref b1)]))
      obtain ⟨cq15, kq15, q15a, q15b, q15c⟩ := isOf (T := T13) hZ e13 E8_b1
      obtain ⟨_, _, ⟨T15, L15, k15, n15⟩, -, X15, ⟨Lc15, hQ15, l15, y15, z15⟩, st15⟩ := X13.virtualBack hx (y := (⟨"com/example/iron_log/ironlog/consumequeue/QueueEntry", "isLost", "()Z"⟩ : MethodName)) (z := (⟨"com/example/iron_log/ironlog/consumequeue/QueueEntry", "isLost", "()Z"⟩ : MethodName)) hown (mvT hZ (own_w32 hw)) (mvT hZ (own_w33 hw)) (notFace_of_selects (args := #[]) (mvT hZ (own_w35 hw))) (mvT hZ (own_w35 hw)) (mvT hZ (own_w34 hw)) (by decide) (backOf (W := 0) (own_rm6 l Z a0 hw [] b1 o z t T7.heap n0 O8  F8_b1_commitLogOffset F8_b1_recordSize F8_b1_tagsCode) hZ (own_w36 hw) (own_w2 hw) (by decide) (by decide)) q15a q15c (g := (mkF m 105 #[.val (Value.long x0), .second, .val (Value.int x1), .val (Value.long x2), .second, .val (Value.int x3), .val (Value.long o), .second, .val (Value.int z), .val (Value.long t), .second, .val (Value.ref b1), .val (Value.ref b5), .val (Value.int (own_eq o z t (0 : Int64) (0 : Int32) (0 : Int64)))] [(Value.ref b1)])) rfl (by rw [hml]; rfl) (Steps.refl _) (argsL := []) (rest := []) (lenOf own_pd1 rfl) rfl (by show 2 * 0 + _ ≤ _; exact Nat.le_of_eq rfl) (hb hby at_105) (fun _ _ => ⟨rfl, e13, (by decide : (2 : Nat) + 0 ≤ _), (by decide : (6 : Nat) + 0 ≤ _)⟩)
      dsimp only [Pt.U, Pt.locs, Pt.cells, Pt.slots] at X15 l15 y15 z15 st15 hQ15
      subst l15 y15 z15
      obtain ⟨rfl, e15, Nq15⟩ := hQ15
      have N15 := Fr.app N13 Nq15
      refine own_tr st15 ?_
      show own_G p e below s _ _ _ (T15.setTop (mkF m 108 #[.val (Value.long x0), .second, .val (Value.int x1), .val (Value.long x2), .second, .val (Value.int x3), .val (Value.long o), .second, .val (Value.int z), .val (Value.long t), .second, .val (Value.ref b1), .val (Value.ref b5), .val (Value.int (own_eq o z t (0 : Int64) (0 : Int32) (0 : Int64)))] [(Value.int (own_lost z))]))
      refine own_if_ne X15 hx hby at_108 (pc' := 119) (by decide) (by decide) (fun hb16 => by exfalso; obtain ⟨q1, q2, q3⟩ := own_eq0 hb12; subst q1 q2 q3; revert hb16; decide) (fun hb16 => ?_)
      show own_G p e below s _ _ _ (T15.setTop (mkF m 111 #[.val (Value.long x0), .second, .val (Value.int x1), .val (Value.long x2), .second, .val (Value.int x3), .val (Value.long o), .second, .val (Value.int z), .val (Value.long t), .second, .val (Value.ref b1), .val (Value.ref b5), .val (Value.int (own_eq o z t (0 : Int64) (0 : Int32) (0 : Int64)))] []))
      refine own_aload X15 hx hby at_111 rfl rfl ?_
      show own_G p e below s _ _ _ (T15.setTop (mkF m 113 #[.val (Value.long x0), .second, .val (Value.int x1), .val (Value.long x2), .second, .val (Value.int x3), .val (Value.long o), .second, .val (Value.int z), .val (Value.long t), .second, .val (Value.ref b1), .val (Value.ref b5), .val (Value.int (own_eq o z t (0 : Int64) (0 : Int32) (0 : Int64)))] [(Value.ref b1)]))
      obtain ⟨cq17, kq17, q17a, q17b, q17c⟩ := isOf (T := T15) hZ e15 E8_b1
      obtain ⟨_, _, ⟨T17, L17, k17, n17⟩, -, X17, ⟨Lc17, hQ17, l17, y17, z17⟩, st17⟩ := X15.virtualBack hx (y := (⟨"com/example/iron_log/ironlog/consumequeue/QueueEntry", "isOfDamage", "()Z"⟩ : MethodName)) (z := (⟨"com/example/iron_log/ironlog/consumequeue/QueueEntry", "isOfDamage", "()Z"⟩ : MethodName)) hown (mvT hZ (own_w37 hw)) (mvT hZ (own_w38 hw)) (notFace_of_selects (args := #[]) (mvT hZ (own_w40 hw))) (mvT hZ (own_w40 hw)) (mvT hZ (own_w39 hw)) (by decide) (backOf (W := 0) (own_rm7 l Z a0 hw [] b1 o z t T7.heap n0 O8  F8_b1_commitLogOffset F8_b1_recordSize F8_b1_tagsCode) hZ (own_w41 hw) (own_w2 hw) (by decide) (by decide)) q17a q17c (g := (mkF m 113 #[.val (Value.long x0), .second, .val (Value.int x1), .val (Value.long x2), .second, .val (Value.int x3), .val (Value.long o), .second, .val (Value.int z), .val (Value.long t), .second, .val (Value.ref b1), .val (Value.ref b5), .val (Value.int (own_eq o z t (0 : Int64) (0 : Int32) (0 : Int64)))] [(Value.ref b1)])) rfl (by rw [hml]; rfl) (Steps.refl _) (argsL := []) (rest := []) (lenOf own_pd1 rfl) rfl (by show 2 * 0 + _ ≤ _; exact Nat.le_of_eq rfl) (hb hby at_113) (fun _ _ => ⟨rfl, e15, (by decide : (2 : Nat) + 0 ≤ _), (by decide : (6 : Nat) + 0 ≤ _)⟩)
      dsimp only [Pt.U, Pt.locs, Pt.cells, Pt.slots] at X17 l17 y17 z17 st17 hQ17
      subst l17 y17 z17
      obtain ⟨rfl, e17, Nq17⟩ := hQ17
      have N17 := Fr.app N15 Nq17
      refine own_tr st17 ?_
      show own_G p e below s _ _ _ (T17.setTop (mkF m 116 #[.val (Value.long x0), .second, .val (Value.int x1), .val (Value.long x2), .second, .val (Value.int x3), .val (Value.long o), .second, .val (Value.int z), .val (Value.long t), .second, .val (Value.ref b1), .val (Value.ref b5), .val (Value.int (own_eq o z t (0 : Int64) (0 : Int32) (0 : Int64)))] [(Value.int (own_dmg t))]))
      refine own_if_eq X17 hx hby at_116 (pc' := 121) (by decide) (by decide) (fun hb18 => ?_) (fun hb18 => by exfalso; obtain ⟨q1, q2, q3⟩ := own_eq0 hb12; subst q1 q2 q3; revert hb18; decide)
      show own_G p e below s _ _ _ (T17.setTop (mkF m 121 #[.val (Value.long x0), .second, .val (Value.int x1), .val (Value.long x2), .second, .val (Value.int x3), .val (Value.long o), .second, .val (Value.int z), .val (Value.long t), .second, .val (Value.ref b1), .val (Value.ref b5), .val (Value.int (own_eq o z t (0 : Int64) (0 : Int32) (0 : Int64)))] []))
      refine own_iconst X17 hx hby at_121 ?_
      show own_G p e below s _ _ _ (T17.setTop (mkF m 122 #[.val (Value.long x0), .second, .val (Value.int x1), .val (Value.long x2), .second, .val (Value.int x3), .val (Value.long o), .second, .val (Value.int z), .val (Value.long t), .second, .val (Value.ref b1), .val (Value.ref b5), .val (Value.int (own_eq o z t (0 : Int64) (0 : Int32) (0 : Int64)))] [(Value.int (1 : Int32))]))
      refine own_retN X17 hx hby hlk (t := .boolean) Bd.returns (by simp) at_122 (by decide) (by decide) ?_
      exact ⟨rfl, N17⟩
  show own_G p e below s _ _ _ (s₁.setTop (mkF m 0 #[.val (Value.long x0), .second, .val (Value.int x1), .val (Value.long x2), .second, .val (Value.int x3), .unset, .unset, .unset, .unset, .unset, .unset, .unset, .unset] []))
  refine own_iload X0 hx hby at_0 rfl ?_
  show own_G p e below s _ _ _ (s₁.setTop (mkF m 2 #[.val (Value.long x0), .second, .val (Value.int x1), .val (Value.long x2), .second, .val (Value.int x3), .unset, .unset, .unset, .unset, .unset, .unset, .unset, .unset] [(Value.int x3)]))
  refine own_iconst X0 hx hby at_2 ?_
  show own_G p e below s _ _ _ (s₁.setTop (mkF m 3 #[.val (Value.long x0), .second, .val (Value.int x1), .val (Value.long x2), .second, .val (Value.int x3), .unset, .unset, .unset, .unset, .unset, .unset, .unset, .unset] [(Value.int (1 : Int32)), (Value.int x3)]))
  refine own_iand X0 hx hby at_3 ?_
  show own_G p e below s _ _ _ (s₁.setTop (mkF m 4 #[.val (Value.long x0), .second, .val (Value.int x1), .val (Value.long x2), .second, .val (Value.int x3), .unset, .unset, .unset, .unset, .unset, .unset, .unset, .unset] [(Value.int (x3 &&& (1 : Int32)))]))
  refine own_if_eq X0 hx hby at_4 (pc' := 11) (by decide) (by decide) (fun hb19 => ?_) (fun hb19 => ?_)
  · show own_G p e below s _ _ _ (s₁.setTop (mkF m 11 #[.val (Value.long x0), .second, .val (Value.int x1), .val (Value.long x2), .second, .val (Value.int x3), .unset, .unset, .unset, .unset, .unset, .unset, .unset, .unset] []))
    refine own_lloadN X0 hx hby at_11 rfl ?_
    show own_G p e below s _ _ _ (s₁.setTop (mkF m 12 #[.val (Value.long x0), .second, .val (Value.int x1), .val (Value.long x2), .second, .val (Value.int x3), .unset, .unset, .unset, .unset, .unset, .unset, .unset, .unset] [(Value.long x0)]))
    refine own_lstore X0 hx hby at_12 (l' := #[.val (Value.long x0), .second, .val (Value.int x1), .val (Value.long x2), .second, .val (Value.int x3), .val (Value.long x0), .second, .unset, .unset, .unset, .unset, .unset, .unset]) rfl ?_
    show own_G p e below s _ _ _ (s₁.setTop (mkF m 14 #[.val (Value.long x0), .second, .val (Value.int x1), .val (Value.long x2), .second, .val (Value.int x3), .val (Value.long x0), .second, .unset, .unset, .unset, .unset, .unset, .unset] []))
    refine own_iload X0 hx hby at_14 rfl ?_
    show own_G p e below s _ _ _ (s₁.setTop (mkF m 16 #[.val (Value.long x0), .second, .val (Value.int x1), .val (Value.long x2), .second, .val (Value.int x3), .val (Value.long x0), .second, .unset, .unset, .unset, .unset, .unset, .unset] [(Value.int x3)]))
    refine own_iconst X0 hx hby at_16 ?_
    show own_G p e below s _ _ _ (s₁.setTop (mkF m 17 #[.val (Value.long x0), .second, .val (Value.int x1), .val (Value.long x2), .second, .val (Value.int x3), .val (Value.long x0), .second, .unset, .unset, .unset, .unset, .unset, .unset] [(Value.int (2 : Int32)), (Value.int x3)]))
    refine own_iand X0 hx hby at_17 ?_
    show own_G p e below s _ _ _ (s₁.setTop (mkF m 18 #[.val (Value.long x0), .second, .val (Value.int x1), .val (Value.long x2), .second, .val (Value.int x3), .val (Value.long x0), .second, .unset, .unset, .unset, .unset, .unset, .unset] [(Value.int (x3 &&& (2 : Int32)))]))
    refine own_if_eq X0 hx hby at_18 (pc' := 25) (by decide) (by decide) (fun hb20 => ?_) (fun hb20 => ?_)
    · show own_G p e below s _ _ _ (s₁.setTop (mkF m 25 #[.val (Value.long x0), .second, .val (Value.int x1), .val (Value.long x2), .second, .val (Value.int x3), .val (Value.long x0), .second, .unset, .unset, .unset, .unset, .unset, .unset] []))
      refine own_iloadN X0 hx hby at_25 rfl ?_
      show own_G p e below s _ _ _ (s₁.setTop (mkF m 26 #[.val (Value.long x0), .second, .val (Value.int x1), .val (Value.long x2), .second, .val (Value.int x3), .val (Value.long x0), .second, .unset, .unset, .unset, .unset, .unset, .unset] [(Value.int x1)]))
      refine own_istore X0 hx hby at_26 (l' := #[.val (Value.long x0), .second, .val (Value.int x1), .val (Value.long x2), .second, .val (Value.int x3), .val (Value.long x0), .second, .val (Value.int x1), .unset, .unset, .unset, .unset, .unset]) rfl ?_
      show own_G p e below s _ _ _ (s₁.setTop (mkF m 28 #[.val (Value.long x0), .second, .val (Value.int x1), .val (Value.long x2), .second, .val (Value.int x3), .val (Value.long x0), .second, .val (Value.int x1), .unset, .unset, .unset, .unset, .unset] []))
      refine own_iload X0 hx hby at_28 rfl ?_
      show own_G p e below s _ _ _ (s₁.setTop (mkF m 30 #[.val (Value.long x0), .second, .val (Value.int x1), .val (Value.long x2), .second, .val (Value.int x3), .val (Value.long x0), .second, .val (Value.int x1), .unset, .unset, .unset, .unset, .unset] [(Value.int x3)]))
      refine own_iconst X0 hx hby at_30 ?_
      show own_G p e below s _ _ _ (s₁.setTop (mkF m 31 #[.val (Value.long x0), .second, .val (Value.int x1), .val (Value.long x2), .second, .val (Value.int x3), .val (Value.long x0), .second, .val (Value.int x1), .unset, .unset, .unset, .unset, .unset] [(Value.int (4 : Int32)), (Value.int x3)]))
      refine own_iand X0 hx hby at_31 ?_
      show own_G p e below s _ _ _ (s₁.setTop (mkF m 32 #[.val (Value.long x0), .second, .val (Value.int x1), .val (Value.long x2), .second, .val (Value.int x3), .val (Value.long x0), .second, .val (Value.int x1), .unset, .unset, .unset, .unset, .unset] [(Value.int (x3 &&& (4 : Int32)))]))
      refine own_if_eq X0 hx hby at_32 (pc' := 39) (by decide) (by decide) (fun hb21 => ?_) (fun hb21 => ?_)
      · show own_G p e below s _ _ _ (s₁.setTop (mkF m 39 #[.val (Value.long x0), .second, .val (Value.int x1), .val (Value.long x2), .second, .val (Value.int x3), .val (Value.long x0), .second, .val (Value.int x1), .unset, .unset, .unset, .unset, .unset] []))
        refine own_lloadN X0 hx hby at_39 rfl ?_
        show own_G p e below s _ _ _ (s₁.setTop (mkF m 40 #[.val (Value.long x0), .second, .val (Value.int x1), .val (Value.long x2), .second, .val (Value.int x3), .val (Value.long x0), .second, .val (Value.int x1), .unset, .unset, .unset, .unset, .unset] [(Value.long x2)]))
        refine own_lstore X0 hx hby at_40 (l' := #[.val (Value.long x0), .second, .val (Value.int x1), .val (Value.long x2), .second, .val (Value.int x3), .val (Value.long x0), .second, .val (Value.int x1), .val (Value.long x2), .second, .unset, .unset, .unset]) rfl ?_
        show own_G p e below s _ _ _ (s₁.setTop (mkF m 42 #[.val (Value.long x0), .second, .val (Value.int x1), .val (Value.long x2), .second, .val (Value.int x3), .val (Value.long x0), .second, .val (Value.int x1), .val (Value.long x2), .second, .unset, .unset, .unset] []))
        exact Jn _ _ _
      · show own_G p e below s _ _ _ (s₁.setTop (mkF m 35 #[.val (Value.long x0), .second, .val (Value.int x1), .val (Value.long x2), .second, .val (Value.int x3), .val (Value.long x0), .second, .val (Value.int x1), .unset, .unset, .unset, .unset, .unset] []))
        refine own_lconst X0 hx hby at_35 ?_
        show own_G p e below s _ _ _ (s₁.setTop (mkF m 36 #[.val (Value.long x0), .second, .val (Value.int x1), .val (Value.long x2), .second, .val (Value.int x3), .val (Value.long x0), .second, .val (Value.int x1), .unset, .unset, .unset, .unset, .unset] [(Value.long (0 : Int64))]))
        refine own_goto X0 hx hby at_36 (pc' := 40) (by decide) (by decide) ?_
        show own_G p e below s _ _ _ (s₁.setTop (mkF m 40 #[.val (Value.long x0), .second, .val (Value.int x1), .val (Value.long x2), .second, .val (Value.int x3), .val (Value.long x0), .second, .val (Value.int x1), .unset, .unset, .unset, .unset, .unset] [(Value.long (0 : Int64))]))
        refine own_lstore X0 hx hby at_40 (l' := #[.val (Value.long x0), .second, .val (Value.int x1), .val (Value.long x2), .second, .val (Value.int x3), .val (Value.long x0), .second, .val (Value.int x1), .val (Value.long (0 : Int64)), .second, .unset, .unset, .unset]) rfl ?_
        show own_G p e below s _ _ _ (s₁.setTop (mkF m 42 #[.val (Value.long x0), .second, .val (Value.int x1), .val (Value.long x2), .second, .val (Value.int x3), .val (Value.long x0), .second, .val (Value.int x1), .val (Value.long (0 : Int64)), .second, .unset, .unset, .unset] []))
        exact Jn _ _ _
    · show own_G p e below s _ _ _ (s₁.setTop (mkF m 21 #[.val (Value.long x0), .second, .val (Value.int x1), .val (Value.long x2), .second, .val (Value.int x3), .val (Value.long x0), .second, .unset, .unset, .unset, .unset, .unset, .unset] []))
      refine own_iconst X0 hx hby at_21 ?_
      show own_G p e below s _ _ _ (s₁.setTop (mkF m 22 #[.val (Value.long x0), .second, .val (Value.int x1), .val (Value.long x2), .second, .val (Value.int x3), .val (Value.long x0), .second, .unset, .unset, .unset, .unset, .unset, .unset] [(Value.int (0 : Int32))]))
      refine own_goto X0 hx hby at_22 (pc' := 26) (by decide) (by decide) ?_
      show own_G p e below s _ _ _ (s₁.setTop (mkF m 26 #[.val (Value.long x0), .second, .val (Value.int x1), .val (Value.long x2), .second, .val (Value.int x3), .val (Value.long x0), .second, .unset, .unset, .unset, .unset, .unset, .unset] [(Value.int (0 : Int32))]))
      refine own_istore X0 hx hby at_26 (l' := #[.val (Value.long x0), .second, .val (Value.int x1), .val (Value.long x2), .second, .val (Value.int x3), .val (Value.long x0), .second, .val (Value.int (0 : Int32)), .unset, .unset, .unset, .unset, .unset]) rfl ?_
      show own_G p e below s _ _ _ (s₁.setTop (mkF m 28 #[.val (Value.long x0), .second, .val (Value.int x1), .val (Value.long x2), .second, .val (Value.int x3), .val (Value.long x0), .second, .val (Value.int (0 : Int32)), .unset, .unset, .unset, .unset, .unset] []))
      refine own_iload X0 hx hby at_28 rfl ?_
      show own_G p e below s _ _ _ (s₁.setTop (mkF m 30 #[.val (Value.long x0), .second, .val (Value.int x1), .val (Value.long x2), .second, .val (Value.int x3), .val (Value.long x0), .second, .val (Value.int (0 : Int32)), .unset, .unset, .unset, .unset, .unset] [(Value.int x3)]))
      refine own_iconst X0 hx hby at_30 ?_
      show own_G p e below s _ _ _ (s₁.setTop (mkF m 31 #[.val (Value.long x0), .second, .val (Value.int x1), .val (Value.long x2), .second, .val (Value.int x3), .val (Value.long x0), .second, .val (Value.int (0 : Int32)), .unset, .unset, .unset, .unset, .unset] [(Value.int (4 : Int32)), (Value.int x3)]))
      refine own_iand X0 hx hby at_31 ?_
      show own_G p e below s _ _ _ (s₁.setTop (mkF m 32 #[.val (Value.long x0), .second, .val (Value.int x1), .val (Value.long x2), .second, .val (Value.int x3), .val (Value.long x0), .second, .val (Value.int (0 : Int32)), .unset, .unset, .unset, .unset, .unset] [(Value.int (x3 &&& (4 : Int32)))]))
      refine own_if_eq X0 hx hby at_32 (pc' := 39) (by decide) (by decide) (fun hb22 => ?_) (fun hb22 => ?_)
      · show own_G p e below s _ _ _ (s₁.setTop (mkF m 39 #[.val (Value.long x0), .second, .val (Value.int x1), .val (Value.long x2), .second, .val (Value.int x3), .val (Value.long x0), .second, .val (Value.int (0 : Int32)), .unset, .unset, .unset, .unset, .unset] []))
        refine own_lloadN X0 hx hby at_39 rfl ?_
        show own_G p e below s _ _ _ (s₁.setTop (mkF m 40 #[.val (Value.long x0), .second, .val (Value.int x1), .val (Value.long x2), .second, .val (Value.int x3), .val (Value.long x0), .second, .val (Value.int (0 : Int32)), .unset, .unset, .unset, .unset, .unset] [(Value.long x2)]))
        refine own_lstore X0 hx hby at_40 (l' := #[.val (Value.long x0), .second, .val (Value.int x1), .val (Value.long x2), .second, .val (Value.int x3), .val (Value.long x0), .second, .val (Value.int (0 : Int32)), .val (Value.long x2), .second, .unset, .unset, .unset]) rfl ?_
        show own_G p e below s _ _ _ (s₁.setTop (mkF m 42 #[.val (Value.long x0), .second, .val (Value.int x1), .val (Value.long x2), .second, .val (Value.int x3), .val (Value.long x0), .second, .val (Value.int (0 : Int32)), .val (Value.long x2), .second, .unset, .unset, .unset] []))
        exact Jn _ _ _
      · show own_G p e below s _ _ _ (s₁.setTop (mkF m 35 #[.val (Value.long x0), .second, .val (Value.int x1), .val (Value.long x2), .second, .val (Value.int x3), .val (Value.long x0), .second, .val (Value.int (0 : Int32)), .unset, .unset, .unset, .unset, .unset] []))
        refine own_lconst X0 hx hby at_35 ?_
        show own_G p e below s _ _ _ (s₁.setTop (mkF m 36 #[.val (Value.long x0), .second, .val (Value.int x1), .val (Value.long x2), .second, .val (Value.int x3), .val (Value.long x0), .second, .val (Value.int (0 : Int32)), .unset, .unset, .unset, .unset, .unset] [(Value.long (0 : Int64))]))
        refine own_goto X0 hx hby at_36 (pc' := 40) (by decide) (by decide) ?_
        show own_G p e below s _ _ _ (s₁.setTop (mkF m 40 #[.val (Value.long x0), .second, .val (Value.int x1), .val (Value.long x2), .second, .val (Value.int x3), .val (Value.long x0), .second, .val (Value.int (0 : Int32)), .unset, .unset, .unset, .unset, .unset] [(Value.long (0 : Int64))]))
        refine own_lstore X0 hx hby at_40 (l' := #[.val (Value.long x0), .second, .val (Value.int x1), .val (Value.long x2), .second, .val (Value.int x3), .val (Value.long x0), .second, .val (Value.int (0 : Int32)), .val (Value.long (0 : Int64)), .second, .unset, .unset, .unset]) rfl ?_
        show own_G p e below s _ _ _ (s₁.setTop (mkF m 42 #[.val (Value.long x0), .second, .val (Value.int x1), .val (Value.long x2), .second, .val (Value.int x3), .val (Value.long x0), .second, .val (Value.int (0 : Int32)), .val (Value.long (0 : Int64)), .second, .unset, .unset, .unset] []))
        exact Jn _ _ _
  · show own_G p e below s _ _ _ (s₁.setTop (mkF m 7 #[.val (Value.long x0), .second, .val (Value.int x1), .val (Value.long x2), .second, .val (Value.int x3), .unset, .unset, .unset, .unset, .unset, .unset, .unset, .unset] []))
    refine own_lconst X0 hx hby at_7 ?_
    show own_G p e below s _ _ _ (s₁.setTop (mkF m 8 #[.val (Value.long x0), .second, .val (Value.int x1), .val (Value.long x2), .second, .val (Value.int x3), .unset, .unset, .unset, .unset, .unset, .unset, .unset, .unset] [(Value.long (0 : Int64))]))
    refine own_goto X0 hx hby at_8 (pc' := 12) (by decide) (by decide) ?_
    show own_G p e below s _ _ _ (s₁.setTop (mkF m 12 #[.val (Value.long x0), .second, .val (Value.int x1), .val (Value.long x2), .second, .val (Value.int x3), .unset, .unset, .unset, .unset, .unset, .unset, .unset, .unset] [(Value.long (0 : Int64))]))
    refine own_lstore X0 hx hby at_12 (l' := #[.val (Value.long x0), .second, .val (Value.int x1), .val (Value.long x2), .second, .val (Value.int x3), .val (Value.long (0 : Int64)), .second, .unset, .unset, .unset, .unset, .unset, .unset]) rfl ?_
    show own_G p e below s _ _ _ (s₁.setTop (mkF m 14 #[.val (Value.long x0), .second, .val (Value.int x1), .val (Value.long x2), .second, .val (Value.int x3), .val (Value.long (0 : Int64)), .second, .unset, .unset, .unset, .unset, .unset, .unset] []))
    refine own_iload X0 hx hby at_14 rfl ?_
    show own_G p e below s _ _ _ (s₁.setTop (mkF m 16 #[.val (Value.long x0), .second, .val (Value.int x1), .val (Value.long x2), .second, .val (Value.int x3), .val (Value.long (0 : Int64)), .second, .unset, .unset, .unset, .unset, .unset, .unset] [(Value.int x3)]))
    refine own_iconst X0 hx hby at_16 ?_
    show own_G p e below s _ _ _ (s₁.setTop (mkF m 17 #[.val (Value.long x0), .second, .val (Value.int x1), .val (Value.long x2), .second, .val (Value.int x3), .val (Value.long (0 : Int64)), .second, .unset, .unset, .unset, .unset, .unset, .unset] [(Value.int (2 : Int32)), (Value.int x3)]))
    refine own_iand X0 hx hby at_17 ?_
    show own_G p e below s _ _ _ (s₁.setTop (mkF m 18 #[.val (Value.long x0), .second, .val (Value.int x1), .val (Value.long x2), .second, .val (Value.int x3), .val (Value.long (0 : Int64)), .second, .unset, .unset, .unset, .unset, .unset, .unset] [(Value.int (x3 &&& (2 : Int32)))]))
    refine own_if_eq X0 hx hby at_18 (pc' := 25) (by decide) (by decide) (fun hb23 => ?_) (fun hb23 => ?_)
    · show own_G p e below s _ _ _ (s₁.setTop (mkF m 25 #[.val (Value.long x0), .second, .val (Value.int x1), .val (Value.long x2), .second, .val (Value.int x3), .val (Value.long (0 : Int64)), .second, .unset, .unset, .unset, .unset, .unset, .unset] []))
      refine own_iloadN X0 hx hby at_25 rfl ?_
      show own_G p e below s _ _ _ (s₁.setTop (mkF m 26 #[.val (Value.long x0), .second, .val (Value.int x1), .val (Value.long x2), .second, .val (Value.int x3), .val (Value.long (0 : Int64)), .second, .unset, .unset, .unset, .unset, .unset, .unset] [(Value.int x1)]))
      refine own_istore X0 hx hby at_26 (l' := #[.val (Value.long x0), .second, .val (Value.int x1), .val (Value.long x2), .second, .val (Value.int x3), .val (Value.long (0 : Int64)), .second, .val (Value.int x1), .unset, .unset, .unset, .unset, .unset]) rfl ?_
      show own_G p e below s _ _ _ (s₁.setTop (mkF m 28 #[.val (Value.long x0), .second, .val (Value.int x1), .val (Value.long x2), .second, .val (Value.int x3), .val (Value.long (0 : Int64)), .second, .val (Value.int x1), .unset, .unset, .unset, .unset, .unset] []))
      refine own_iload X0 hx hby at_28 rfl ?_
      show own_G p e below s _ _ _ (s₁.setTop (mkF m 30 #[.val (Value.long x0), .second, .val (Value.int x1), .val (Value.long x2), .second, .val (Value.int x3), .val (Value.long (0 : Int64)), .second, .val (Value.int x1), .unset, .unset, .unset, .unset, .unset] [(Value.int x3)]))
      refine own_iconst X0 hx hby at_30 ?_
      show own_G p e below s _ _ _ (s₁.setTop (mkF m 31 #[.val (Value.long x0), .second, .val (Value.int x1), .val (Value.long x2), .second, .val (Value.int x3), .val (Value.long (0 : Int64)), .second, .val (Value.int x1), .unset, .unset, .unset, .unset, .unset] [(Value.int (4 : Int32)), (Value.int x3)]))
      refine own_iand X0 hx hby at_31 ?_
      show own_G p e below s _ _ _ (s₁.setTop (mkF m 32 #[.val (Value.long x0), .second, .val (Value.int x1), .val (Value.long x2), .second, .val (Value.int x3), .val (Value.long (0 : Int64)), .second, .val (Value.int x1), .unset, .unset, .unset, .unset, .unset] [(Value.int (x3 &&& (4 : Int32)))]))
      refine own_if_eq X0 hx hby at_32 (pc' := 39) (by decide) (by decide) (fun hb24 => ?_) (fun hb24 => ?_)
      · show own_G p e below s _ _ _ (s₁.setTop (mkF m 39 #[.val (Value.long x0), .second, .val (Value.int x1), .val (Value.long x2), .second, .val (Value.int x3), .val (Value.long (0 : Int64)), .second, .val (Value.int x1), .unset, .unset, .unset, .unset, .unset] []))
        refine own_lloadN X0 hx hby at_39 rfl ?_
        show own_G p e below s _ _ _ (s₁.setTop (mkF m 40 #[.val (Value.long x0), .second, .val (Value.int x1), .val (Value.long x2), .second, .val (Value.int x3), .val (Value.long (0 : Int64)), .second, .val (Value.int x1), .unset, .unset, .unset, .unset, .unset] [(Value.long x2)]))
        refine own_lstore X0 hx hby at_40 (l' := #[.val (Value.long x0), .second, .val (Value.int x1), .val (Value.long x2), .second, .val (Value.int x3), .val (Value.long (0 : Int64)), .second, .val (Value.int x1), .val (Value.long x2), .second, .unset, .unset, .unset]) rfl ?_
        show own_G p e below s _ _ _ (s₁.setTop (mkF m 42 #[.val (Value.long x0), .second, .val (Value.int x1), .val (Value.long x2), .second, .val (Value.int x3), .val (Value.long (0 : Int64)), .second, .val (Value.int x1), .val (Value.long x2), .second, .unset, .unset, .unset] []))
        exact Jn _ _ _
      · show own_G p e below s _ _ _ (s₁.setTop (mkF m 35 #[.val (Value.long x0), .second, .val (Value.int x1), .val (Value.long x2), .second, .val (Value.int x3), .val (Value.long (0 : Int64)), .second, .val (Value.int x1), .unset, .unset, .unset, .unset, .unset] []))
        refine own_lconst X0 hx hby at_35 ?_
        show own_G p e below s _ _ _ (s₁.setTop (mkF m 36 #[.val (Value.long x0), .second, .val (Value.int x1), .val (Value.long x2), .second, .val (Value.int x3), .val (Value.long (0 : Int64)), .second, .val (Value.int x1), .unset, .unset, .unset, .unset, .unset] [(Value.long (0 : Int64))]))
        refine own_goto X0 hx hby at_36 (pc' := 40) (by decide) (by decide) ?_
        show own_G p e below s _ _ _ (s₁.setTop (mkF m 40 #[.val (Value.long x0), .second, .val (Value.int x1), .val (Value.long x2), .second, .val (Value.int x3), .val (Value.long (0 : Int64)), .second, .val (Value.int x1), .unset, .unset, .unset, .unset, .unset] [(Value.long (0 : Int64))]))
        refine own_lstore X0 hx hby at_40 (l' := #[.val (Value.long x0), .second, .val (Value.int x1), .val (Value.long x2), .second, .val (Value.int x3), .val (Value.long (0 : Int64)), .second, .val (Value.int x1), .val (Value.long (0 : Int64)), .second, .unset, .unset, .unset]) rfl ?_
        show own_G p e below s _ _ _ (s₁.setTop (mkF m 42 #[.val (Value.long x0), .second, .val (Value.int x1), .val (Value.long x2), .second, .val (Value.int x3), .val (Value.long (0 : Int64)), .second, .val (Value.int x1), .val (Value.long (0 : Int64)), .second, .unset, .unset, .unset] []))
        exact Jn _ _ _
    · show own_G p e below s _ _ _ (s₁.setTop (mkF m 21 #[.val (Value.long x0), .second, .val (Value.int x1), .val (Value.long x2), .second, .val (Value.int x3), .val (Value.long (0 : Int64)), .second, .unset, .unset, .unset, .unset, .unset, .unset] []))
      refine own_iconst X0 hx hby at_21 ?_
      show own_G p e below s _ _ _ (s₁.setTop (mkF m 22 #[.val (Value.long x0), .second, .val (Value.int x1), .val (Value.long x2), .second, .val (Value.int x3), .val (Value.long (0 : Int64)), .second, .unset, .unset, .unset, .unset, .unset, .unset] [(Value.int (0 : Int32))]))
      refine own_goto X0 hx hby at_22 (pc' := 26) (by decide) (by decide) ?_
      show own_G p e below s _ _ _ (s₁.setTop (mkF m 26 #[.val (Value.long x0), .second, .val (Value.int x1), .val (Value.long x2), .second, .val (Value.int x3), .val (Value.long (0 : Int64)), .second, .unset, .unset, .unset, .unset, .unset, .unset] [(Value.int (0 : Int32))]))
      refine own_istore X0 hx hby at_26 (l' := #[.val (Value.long x0), .second, .val (Value.int x1), .val (Value.long x2), .second, .val (Value.int x3), .val (Value.long (0 : Int64)), .second, .val (Value.int (0 : Int32)), .unset, .unset, .unset, .unset, .unset]) rfl ?_
      show own_G p e below s _ _ _ (s₁.setTop (mkF m 28 #[.val (Value.long x0), .second, .val (Value.int x1), .val (Value.long x2), .second, .val (Value.int x3), .val (Value.long (0 : Int64)), .second, .val (Value.int (0 : Int32)), .unset, .unset, .unset, .unset, .unset] []))
      refine own_iload X0 hx hby at_28 rfl ?_
      show own_G p e below s _ _ _ (s₁.setTop (mkF m 30 #[.val (Value.long x0), .second, .val (Value.int x1), .val (Value.long x2), .second, .val (Value.int x3), .val (Value.long (0 : Int64)), .second, .val (Value.int (0 : Int32)), .unset, .unset, .unset, .unset, .unset] [(Value.int x3)]))
      refine own_iconst X0 hx hby at_30 ?_
      show own_G p e below s _ _ _ (s₁.setTop (mkF m 31 #[.val (Value.long x0), .second, .val (Value.int x1), .val (Value.long x2), .second, .val (Value.int x3), .val (Value.long (0 : Int64)), .second, .val (Value.int (0 : Int32)), .unset, .unset, .unset, .unset, .unset] [(Value.int (4 : Int32)), (Value.int x3)]))
      refine own_iand X0 hx hby at_31 ?_
      show own_G p e below s _ _ _ (s₁.setTop (mkF m 32 #[.val (Value.long x0), .second, .val (Value.int x1), .val (Value.long x2), .second, .val (Value.int x3), .val (Value.long (0 : Int64)), .second, .val (Value.int (0 : Int32)), .unset, .unset, .unset, .unset, .unset] [(Value.int (x3 &&& (4 : Int32)))]))
      refine own_if_eq X0 hx hby at_32 (pc' := 39) (by decide) (by decide) (fun hb25 => ?_) (fun hb25 => ?_)
      · show own_G p e below s _ _ _ (s₁.setTop (mkF m 39 #[.val (Value.long x0), .second, .val (Value.int x1), .val (Value.long x2), .second, .val (Value.int x3), .val (Value.long (0 : Int64)), .second, .val (Value.int (0 : Int32)), .unset, .unset, .unset, .unset, .unset] []))
        refine own_lloadN X0 hx hby at_39 rfl ?_
        show own_G p e below s _ _ _ (s₁.setTop (mkF m 40 #[.val (Value.long x0), .second, .val (Value.int x1), .val (Value.long x2), .second, .val (Value.int x3), .val (Value.long (0 : Int64)), .second, .val (Value.int (0 : Int32)), .unset, .unset, .unset, .unset, .unset] [(Value.long x2)]))
        refine own_lstore X0 hx hby at_40 (l' := #[.val (Value.long x0), .second, .val (Value.int x1), .val (Value.long x2), .second, .val (Value.int x3), .val (Value.long (0 : Int64)), .second, .val (Value.int (0 : Int32)), .val (Value.long x2), .second, .unset, .unset, .unset]) rfl ?_
        show own_G p e below s _ _ _ (s₁.setTop (mkF m 42 #[.val (Value.long x0), .second, .val (Value.int x1), .val (Value.long x2), .second, .val (Value.int x3), .val (Value.long (0 : Int64)), .second, .val (Value.int (0 : Int32)), .val (Value.long x2), .second, .unset, .unset, .unset] []))
        exact Jn _ _ _
      · show own_G p e below s _ _ _ (s₁.setTop (mkF m 35 #[.val (Value.long x0), .second, .val (Value.int x1), .val (Value.long x2), .second, .val (Value.int x3), .val (Value.long (0 : Int64)), .second, .val (Value.int (0 : Int32)), .unset, .unset, .unset, .unset, .unset] []))
        refine own_lconst X0 hx hby at_35 ?_
        show own_G p e below s _ _ _ (s₁.setTop (mkF m 36 #[.val (Value.long x0), .second, .val (Value.int x1), .val (Value.long x2), .second, .val (Value.int x3), .val (Value.long (0 : Int64)), .second, .val (Value.int (0 : Int32)), .unset, .unset, .unset, .unset, .unset] [(Value.long (0 : Int64))]))
        refine own_goto X0 hx hby at_36 (pc' := 40) (by decide) (by decide) ?_
        show own_G p e below s _ _ _ (s₁.setTop (mkF m 40 #[.val (Value.long x0), .second, .val (Value.int x1), .val (Value.long x2), .second, .val (Value.int x3), .val (Value.long (0 : Int64)), .second, .val (Value.int (0 : Int32)), .unset, .unset, .unset, .unset, .unset] [(Value.long (0 : Int64))]))
        refine own_lstore X0 hx hby at_40 (l' := #[.val (Value.long x0), .second, .val (Value.int x1), .val (Value.long x2), .second, .val (Value.int x3), .val (Value.long (0 : Int64)), .second, .val (Value.int (0 : Int32)), .val (Value.long (0 : Int64)), .second, .unset, .unset, .unset]) rfl ?_
        show own_G p e below s _ _ _ (s₁.setTop (mkF m 42 #[.val (Value.long x0), .second, .val (Value.int x1), .val (Value.long x2), .second, .val (Value.int x3), .val (Value.long (0 : Int64)), .second, .val (Value.int (0 : Int32)), .val (Value.long (0 : Int64)), .second, .unset, .unset, .unset] []))
        exact Jn _ _ _
set_option maxRecDepth 65536 in
set_option maxHeartbeats 40000000 in
theorem comes_1 {Post : Tables → Env → Array Value → State → Outcome → State → Prop} (hpost : ∀ tb e args s v u, (limb_1_1.after args s (.returned v) u = true ∧ limb_1_2.after args s (.returned v) u = true ∧ True) → FrameEnd s (.returned v) u (Jvm.fieldLocs frame_1_writes args s ++ Jvm.arrayLocs frame_1_arrays args s ++ Jvm.staticLocs frame_1_statics s) 16 128 → Post tb e args s (.returned v) u) :
    ArmFor flags0 classFile x code maxLocals ret World_1 tables_1 room_1 Calls_1 rest_1 Pre_1 Post := by
  intro l hfl _ _ p e ha hc hk s m args below hf hA hF happ hP
  obtain ⟨hcalls, hrest, hpre⟩ := hP
  obtain ⟨-, -, -, hnamed, -, -, -, hat⟩ := (Spec.applies_iff hf).mp happ
  obtain ⟨hg, hn⟩ := and_e (Cond.before_iff.mp (show (Jvm.Cond.and given_1 narrow_1).before args s = true from hpre))
  obtain ⟨hgc, hgr0⟩ := and_e hg
  obtain ⟨hga0, hgr1⟩ := and_e hgr0
  obtain ⟨hga1, hgr2⟩ := and_e hgr1
  obtain ⟨hga2, hgr3⟩ := and_e hgr2
  have hga3 := hgr3
  obtain ⟨w0, w1, w2, w3, rfl⟩ : ∃ w0 w1 w2 w3 : Value, args = #[w0, w1, w2, w3] := by
    have hs : args.size = 4 := by simpa [Cond.value, given_1] using hgc
    obtain ⟨L⟩ := args
    match L, hs with
    | [w0, w1, w2, w3], _ => exact ⟨w0, w1, w2, w3, rfl⟩
  have hw := fun d (hd : d ∈ tables_1) => atoms_spec (ws := Jvm.Cond.code x code maxLocals ret :: tables_1) hat d (List.mem_cons_of_mem _ hd)
  have hfit : Fit s := fun {y c} hc i hi => by
    obtain ⟨ha, rfl⟩ := Array.getElem?_eq_some_iff.mp hc
    have q := List.all_eq_true.mp ((Array.all_eq_true_iff_forall_mem.mp hF) _ (Array.getElem_mem ha)) i (List.mem_range.mpr hi)
    simpa [Array.getElem?_eq_getElem hi] using q
  obtain ⟨i0, ei0⟩ := isL_v hga0
  obtain rfl : w0 = (.long i0) := Option.some.inj ei0
  obtain ⟨i1, ei1⟩ := is_v hga1
  obtain rfl : w1 = (.int i1) := Option.some.inj ei1
  obtain ⟨i2, ei2⟩ := isL_v hga2
  obtain rfl : w2 = (.long i2) := Option.some.inj ei2
  obtain ⟨i3, ei3⟩ := is_v hga3
  obtain rfl : w3 = (.int i3) := Option.some.inj ei3
  obtain ⟨n, o, h1, h2, h3, _, L, rfl, ⟨rfl, N⟩, hq⟩ := own_rm0 l s _ hw tables_1 i0 i1 i2 i3  s.heap s.heap.size (Old.start s)  p e ha hc hk s m _ below hf ((Spec.applies_iff_loose hf).mp happ).1 ⟨rfl, State.Warmed39.refl s, rfl⟩ trivial
  refine ⟨n, _, h1, h2, h3, hpost _ _ _ _ _ _ ⟨Cond.after_iff.mpr rfl, Cond.after_iff.mpr (eq_i res_at (Term.int_eval (1)) rfl), trivial⟩ ⟨hq.1, hq.2.1, (hq.2.2.sift fun y hy => Or.inr (N y hy)).mono (by decide) (by decide)⟩⟩
theorem main_1_1 : Claimed_1_1 := comes_1 fun _ _ _ _ _ _ h hF => ⟨h.1, hF⟩
theorem main_1_2 : Claimed_1_2 := comes_1 fun _ _ _ _ _ _ h hF => ⟨h.2.1, hF⟩
end Jvm.Pilot.@@N@@
namespace Jvm.Pilot.@@N@@
open Jvm Jvm.ClassFile Sem Op Lib Jvm.Free Jvm.Stand Jvm.Pilot.@@N@@.Jvm.D
/-! MADE BY PROGRAM (witnessworld.py) out of the Statement's table words and the real class files: 9 classes; the members and pool entries that the words name. The judged class is class 1, her method 1. -/
namespace start1
open Jvm.ClassFile
def u (s : String) : CpInfo := .utf8 (stringToUtf16 s)
/-- a pool by its gaps: so many unusable entries, then the entry; so many at the end -/
def gap : Nat → List CpInfo → List CpInfo
  | 0, r => r
  | n + 1, r => .unusable :: gap n r
def poolList (es : List (Nat × CpInfo)) (last : Nat) : List CpInfo := es.foldr (fun e r => gap e.1 (e.2 :: r)) (gap last [])
def pool (es : List (Nat × CpInfo)) (last : Nat) : Array CpInfo := ⟨poolList es last⟩
def fileOf (pool : Array CpInfo) (this : Nat) (attrs : Array Attribute := #[]) (ms : Array MethodInfo := #[]) (fl : Nat := 33) (sup : Nat := 0) (ifs : Array Nat := #[]) (fds : Array FieldInfo := #[]) : ClassFile where
  minorVersion := 0
  majorVersion := 65
  constantPool := pool
  accessFlags := fl
  thisClass := this
  superClass := sup
  interfaces := ifs
  fields := fds
  methods := ms
  attributes := attrs
def plain (name : String) (sup : Option ClassId) : Class where
  name := name
  kind := .ordinary
  loader := none
  accessFlags := 33
  super := sup
  interfaces := #[]
  cf := none
  fields := #[]
  methods := #[]
  instanceTypes := #[]
  staticTypes := #[]
  resolved := #[]
  callSites := []
  init := .initialized
  statics := none
  mirror := none

def pool0 : Array CpInfo := pool [(5, u "<init>"), (0, u "()V"), (1, .class_ 10), (1, u "java/lang/Object")] 113

def k0c0 : Code := { maxStack := 0, maxLocals := 1, code := object_method_1_code, exceptionTable := #[], attributes := #[] }
def k0m0 : Method := { name := "<init>", desc := "()V", sig := { parameters := [], returnType := none }, accessFlags := 1, code := some k0c0 }
/-- java/lang/Object -/
def k0 : Class := { plain "java/lang/Object" none with
  accessFlags := 33
  interfaces := #[]
  cf := some (fileOf pool0 8 #[] #[{ accessFlags := 1, nameIndex := 5, descriptorIndex := 6, attributes := #[] }] 33 0 #[] #[])
  fields := #[]
  methods := #[k0m0]
  instanceTypes := #[]
  staticTypes := #[]
  resolved := Array.replicate 124 none
  statics := none }

def pool1 : Array CpInfo := pool [(2, .class_ 4), (1, u "java/lang/Object"), (0, u "<init>"), (0, u "()V"), (0, .class_ 8), (0, u "com/example/iron_log/ironlog/consumequeue/QueueEntry"), (0, .methodref 7 10), (0, .nameAndType 5 11), (0, u "(JIJ)V"), (0, .methodref 7 13), (0, .nameAndType 14 15), (0, u "isUnwritten"), (0, u "()Z"), (0, .methodref 7 17), (0, .nameAndType 18 19), (0, u "equals"), (0, u "(Ljava/lang/Object;)Z"), (0, .methodref 7 21), (0, .nameAndType 22 15), (0, u "givesPlace"), (0, .methodref 7 24), (0, .nameAndType 25 15), (0, u "isLost"), (0, .methodref 7 27), (0, .nameAndType 28 15), (0, u "isOfDamage"), (0, .class_ 30), (0, u "com/example/iron_log/ironlog/consumequeue/QueueEntryIsUnwrittenPinLaw"), (2, u "law"), (0, u "(JIJI)Z")] 3

def k1m0 : Method := { name := "<init>", desc := "()V", sig := { parameters := [], returnType := none }, accessFlags := 1, code := none }
def k1c1 : Code := { maxStack := 7, maxLocals := 14, code := code, exceptionTable := #[], attributes := #[] }
def k1m1 : Method := { name := "law", desc := "(JIJI)Z", sig := { parameters := [.long, .int, .long, .int], returnType := some .boolean }, accessFlags := 9, code := some k1c1 }
/-- com/example/iron_log/ironlog/consumequeue/QueueEntryIsUnwrittenPinLaw -/
def k1 : Class := { plain "com/example/iron_log/ironlog/consumequeue/QueueEntryIsUnwrittenPinLaw" (some 0) with
  accessFlags := 49
  interfaces := #[]
  cf := some (fileOf pool1 29 #[] #[{ accessFlags := 1, nameIndex := 5, descriptorIndex := 6, attributes := #[] }, { accessFlags := 9, nameIndex := 33, descriptorIndex := 34, attributes := #[] }] 49 2 #[] #[])
  fields := #[]
  methods := #[k1m0, k1m1]
  instanceTypes := #[]
  staticTypes := #[]
  resolved := Array.replicate 38 none
  statics := none }

def pool2 : Array CpInfo := pool [(3, .methodref 4 5), (0, .class_ 6), (0, .nameAndType 7 8), (0, u "java/lang/Object"), (0, u "<init>"), (0, u "()V"), (0, .fieldref 10 11), (0, .class_ 12), (0, .nameAndType 13 14), (0, u "com/example/iron_log/ironlog/consumequeue/QueueEntry"), (0, u "commitLogOffset"), (0, u "J"), (0, .fieldref 10 16), (0, .nameAndType 17 18), (0, u "recordSize"), (0, u "I"), (0, .fieldref 10 20), (0, .nameAndType 21 14), (0, u "tagsCode"), (19, u "(JIJ)V"), (0, .long 9223372036854775808), (13, u "LOST_SIZE"), (2, u "DAMAGE_TAGS_CODE"), (9, u "givesPlace"), (0, u "()Z"), (1, u "isOfDamage"), (0, u "isLost"), (0, u "isUnwritten"), (0, u "equals"), (0, u "(Ljava/lang/Object;)Z")] 18

def k2c0 : Code := { maxStack := 3, maxLocals := 6, code := prog_44_method_1_code, exceptionTable := #[], attributes := #[] }
def k2m0 : Method := { name := "<init>", desc := "(JIJ)V", sig := { parameters := [.long, .int, .long], returnType := none }, accessFlags := 1, code := some k2c0 }
def k2c1 : Code := { maxStack := 4, maxLocals := 1, code := prog_44_method_9_code, exceptionTable := #[], attributes := #[] }
def k2m1 : Method := { name := "givesPlace", desc := "()Z", sig := { parameters := [], returnType := some .boolean }, accessFlags := 1, code := some k2c1 }
def k2c2 : Code := { maxStack := 4, maxLocals := 1, code := prog_44_method_10_code, exceptionTable := #[], attributes := #[] }
def k2m2 : Method := { name := "isOfDamage", desc := "()Z", sig := { parameters := [], returnType := some .boolean }, accessFlags := 1, code := some k2c2 }
def k2c3 : Code := { maxStack := 2, maxLocals := 1, code := prog_44_method_11_code, exceptionTable := #[], attributes := #[] }
def k2m3 : Method := { name := "isLost", desc := "()Z", sig := { parameters := [], returnType := some .boolean }, accessFlags := 1, code := some k2c3 }
def k2c4 : Code := { maxStack := 4, maxLocals := 1, code := prog_44_method_12_code, exceptionTable := #[], attributes := #[] }
def k2m4 : Method := { name := "isUnwritten", desc := "()Z", sig := { parameters := [], returnType := some .boolean }, accessFlags := 1, code := some k2c4 }
def k2c5 : Code := { maxStack := 4, maxLocals := 3, code := prog_44_method_13_code, exceptionTable := #[], attributes := #[] }
def k2m5 : Method := { name := "equals", desc := "(Ljava/lang/Object;)Z", sig := { parameters := [(.object "java/lang/Object")], returnType := some .boolean }, accessFlags := 1, code := some k2c5 }
/-- com/example/iron_log/ironlog/consumequeue/QueueEntry -/
def k2 : Class := { plain "com/example/iron_log/ironlog/consumequeue/QueueEntry" (some 0) with
  accessFlags := 33
  interfaces := #[]
  cf := some (fileOf pool2 10 #[] #[{ accessFlags := 1, nameIndex := 7, descriptorIndex := 41, attributes := #[] }, { accessFlags := 1, nameIndex := 69, descriptorIndex := 70, attributes := #[] }, { accessFlags := 1, nameIndex := 72, descriptorIndex := 70, attributes := #[] }, { accessFlags := 1, nameIndex := 73, descriptorIndex := 70, attributes := #[] }, { accessFlags := 1, nameIndex := 74, descriptorIndex := 70, attributes := #[] }, { accessFlags := 1, nameIndex := 75, descriptorIndex := 76, attributes := #[] }] 33 4 #[] #[{ accessFlags := 26, nameIndex := 56, descriptorIndex := 18, attributes := #[] }, { accessFlags := 26, nameIndex := 59, descriptorIndex := 14, attributes := #[] }, { accessFlags := 18, nameIndex := 13, descriptorIndex := 14, attributes := #[] }, { accessFlags := 18, nameIndex := 17, descriptorIndex := 18, attributes := #[] }, { accessFlags := 18, nameIndex := 21, descriptorIndex := 14, attributes := #[] }])
  fields := #[{ name := "LOST_SIZE", type := .int, accessFlags := 26, slot := 0, constantValue := 0 }, { name := "DAMAGE_TAGS_CODE", type := .long, accessFlags := 26, slot := 1, constantValue := 0 }, { name := "commitLogOffset", type := .long, accessFlags := 18, slot := 0, constantValue := 0 }, { name := "recordSize", type := .int, accessFlags := 18, slot := 1, constantValue := 0 }, { name := "tagsCode", type := .long, accessFlags := 18, slot := 2, constantValue := 0 }]
  methods := #[k2m0, k2m1, k2m2, k2m3, k2m4, k2m5]
  instanceTypes := #[.long, .int, .long]
  staticTypes := #[.int, .long]
  resolved := Array.replicate 95 none
  statics := none }

def pool3 : Array CpInfo := pool [(1, u "java/lang/Cloneable"), (0, .class_ 1), (0, u "java/lang/Object"), (0, .class_ 3)] 3

/-- java/lang/Cloneable -/
def k3 : Class := { plain "java/lang/Cloneable" (some 0) with
  accessFlags := 1537
  interfaces := #[]
  cf := some (fileOf pool3 2 #[] #[] 1537 4 #[] #[])
  fields := #[]
  methods := #[]
  instanceTypes := #[]
  staticTypes := #[]
  resolved := Array.replicate 8 none
  statics := none }

def pool4 : Array CpInfo := pool [(1, u "java/io/Serializable"), (0, .class_ 1), (0, u "java/lang/Object"), (0, .class_ 3)] 3

/-- java/io/Serializable -/
def k4 : Class := { plain "java/io/Serializable" (some 0) with
  accessFlags := 1537
  interfaces := #[]
  cf := some (fileOf pool4 2 #[] #[] 1537 4 #[] #[])
  fields := #[]
  methods := #[]
  instanceTypes := #[]
  staticTypes := #[]
  resolved := Array.replicate 8 none
  statics := none }

/-- the primitive byte -/
def k5 : Class := { plain "byte" none with kind := .primitive 'B', accessFlags := 0x411 }
/-- [B -/
def k6 : Class := { plain "[B" (some 0) with kind := .array 5 .byte, interfaces := #[3, 4], accessFlags := 1041 }

/-- the primitive int -/
def k7 : Class := { plain "int" none with kind := .primitive 'I', accessFlags := 0x411 }
/-- [I -/
def k8 : Class := { plain "[I" (some 0) with kind := .array 7 .int, interfaces := #[3, 4], accessFlags := 1041 }

def heap : Heap := #[]
def classes : Array Class := #[k0, k1, k2, k3, k4, k5, k6, k7, k8]
def interned : List (Array UInt16 × Addr) := []
def slotsUsed : Nat := 0
def theMethod : MethodId := ⟨1, 1⟩
def args0 : Array Value := #[.long 5, .int 7, .long 9, .int 0]
def aboutOver (below : List Frame) : State where
  vm := { classes := classes, interned := interned.toArray }
  heap := heap
  slotsUsed := slotsUsed
  threads := #[{ frames := .invoking theMethod args0 :: below }]
def below0 : List Frame := [.native { method := ⟨0, 0⟩, args := #[] }]
def about1 : State := aboutOver below0
def p0 : Program := .bare "" "" ""
def e0 : Env := launch0.env 0 0 0
theorem w_frames : about1.frames = Frame.invoking theMethod args0 :: below0 := rfl
set_option maxRecDepth 65536 in
theorem w_args : argsFit about1.vm theMethod args0 = true := by decide +kernel
set_option maxRecDepth 65536 in
theorem w_heap : heapFits about1 = true := by decide +kernel
set_option maxRecDepth 65536 in
theorem w_runnable : about1.curStatus? = some .runnable := by decide +kernel
set_option maxRecDepth 65536 in
theorem w_alone : about1.alone = true := by decide +kernel
set_option maxRecDepth 65536 in
theorem w_named : about1.methodNamed? x = some theMethod := by decide +kernel
set_option maxRecDepth 65536 in
theorem w_hears : about1.hears theMethod below0 = true := by decide +kernel
set_option maxRecDepth 65536 in
theorem w_ripe : about1.ripe theMethod args0 below0 = true := by decide +kernel
theorem w_running : about1.status = .running := rfl
set_option maxRecDepth 65536 in
theorem w_room : about1.hasRoom e0.platform room_1 = true :=
  launch0.hasRoom_least _ room_1 (by decide +kernel) (by decide +kernel) (by decide +kernel) (by decide +kernel) (by decide +kernel) (by decide +kernel)
theorem allAtoms_all (ts : List Jvm.Cond) (a : Array Jvm.Value) (st : Jvm.State) : (allAtoms ts).before a st = ts.all (fun c => c.before a st) := by
  induction ts with
  | nil => rfl
  | cons c t ih =>
    show (Jvm.Cond.and c (allAtoms t)).before a st = _
    rw [Jvm.Cond.before_and, ih, List.all_cons]
def words1 : List Jvm.Cond := Jvm.Cond.code x code maxLocals ret :: tables_1
/-- a 'code' word, met by the world's own term for the bytes: nothing is compared byte by byte -/
theorem code_word {y : MethodName} {bytes : ByteArray} {mx : Nat} {rt : Option FieldType} {a : Array Value} {s : State} {m : MethodId} {meth : Method} {c : Code} (h1 : s.methodNamed? y = some m) (h2 : s.vm.method? m = some meth) (h3 : meth.code = some c) (h4 : c.code = bytes)
    (h5 : (c.maxLocals == mx && c.exceptionTable.isEmpty && decide (c.maxStack ≤ mostOperands) && decide (meth.sig.returnType = rt) && !meth.locks && decide (parseMethodDescriptor y.desc = some meth.sig)) = true) : (Jvm.Cond.code y bytes mx rt).before a s = true := by
  simp only [Bool.and_eq_true, beq_iff_eq, Bool.not_eq_true', decide_eq_true_eq] at h5
  obtain ⟨⟨⟨⟨⟨g1, g2⟩, g3⟩, g4⟩, g5⟩, g6⟩ := h5
  simp [Cond.before, Cond.holds, Cond.value, h1, h2, h3, h4, g1, g2, g3, g4, g5, g6]
def isCode : Jvm.Cond → Bool
  | .code _ _ _ _ => true
  | _ => false
theorem all_split {L : List Jvm.Cond} {P : Jvm.Cond → Bool} (h1 : L.all (fun c => isCode c || P c) = true) (h2 : ∀ c ∈ L.filter isCode, P c = true) : L.all P = true := by
  refine List.all_eq_true.mpr fun c hc => ?_
  have h := List.all_eq_true.mp h1 c hc
  rcases Bool.eq_false_or_eq_true (isCode c) with hi | hi
  · exact h2 c (List.mem_filter.mpr ⟨hc, hi⟩)
  · simpa [hi] using h
set_option maxRecDepth 65536 in
theorem w_c0 : (Jvm.Cond.code x code maxLocals ret).before args0 about1 = true := code_word (m := ⟨1, 1⟩) (meth := k1m1) (c := k1c1) (by decide +kernel) rfl rfl rfl (by decide +kernel)
set_option maxRecDepth 65536 in
theorem w_c1 : (Jvm.Cond.code ({ cls := "com/example/iron_log/ironlog/consumequeue/QueueEntry", name := "<init>", desc := "(JIJ)V" } : Jvm.MethodName) prog_44_method_1_code (6 : Nat) (Option.none : Option Jvm.ClassFile.FieldType)).before args0 about1 = true := code_word (m := ⟨2, 0⟩) (meth := k2m0) (c := k2c0) (by decide +kernel) rfl rfl rfl (by decide +kernel)
set_option maxRecDepth 65536 in
theorem w_c2 : (Jvm.Cond.code ({ cls := "java/lang/Object", name := "<init>", desc := "()V" } : Jvm.MethodName) object_method_1_code (1 : Nat) (Option.none : Option Jvm.ClassFile.FieldType)).before args0 about1 = true := code_word (m := ⟨0, 0⟩) (meth := k0m0) (c := k0c0) (by decide +kernel) rfl rfl rfl (by decide +kernel)
set_option maxRecDepth 65536 in
theorem w_c3 : (Jvm.Cond.code ({ cls := "com/example/iron_log/ironlog/consumequeue/QueueEntry", name := "isUnwritten", desc := "()Z" } : Jvm.MethodName) prog_44_method_12_code (1 : Nat) (Option.some Jvm.ClassFile.FieldType.boolean)).before args0 about1 = true := code_word (m := ⟨2, 4⟩) (meth := k2m4) (c := k2c4) (by decide +kernel) rfl rfl rfl (by decide +kernel)
set_option maxRecDepth 65536 in
theorem w_c4 : (Jvm.Cond.code ({ cls := "com/example/iron_log/ironlog/consumequeue/QueueEntry", name := "equals", desc := "(Ljava/lang/Object;)Z" } : Jvm.MethodName) prog_44_method_13_code (3 : Nat) (Option.some Jvm.ClassFile.FieldType.boolean)).before args0 about1 = true := code_word (m := ⟨2, 5⟩) (meth := k2m5) (c := k2c5) (by decide +kernel) rfl rfl rfl (by decide +kernel)
set_option maxRecDepth 65536 in
theorem w_c5 : (Jvm.Cond.code ({ cls := "com/example/iron_log/ironlog/consumequeue/QueueEntry", name := "givesPlace", desc := "()Z" } : Jvm.MethodName) prog_44_method_9_code (1 : Nat) (Option.some Jvm.ClassFile.FieldType.boolean)).before args0 about1 = true := code_word (m := ⟨2, 1⟩) (meth := k2m1) (c := k2c1) (by decide +kernel) rfl rfl rfl (by decide +kernel)
set_option maxRecDepth 65536 in
theorem w_c6 : (Jvm.Cond.code ({ cls := "com/example/iron_log/ironlog/consumequeue/QueueEntry", name := "isLost", desc := "()Z" } : Jvm.MethodName) prog_44_method_11_code (1 : Nat) (Option.some Jvm.ClassFile.FieldType.boolean)).before args0 about1 = true := code_word (m := ⟨2, 3⟩) (meth := k2m3) (c := k2c3) (by decide +kernel) rfl rfl rfl (by decide +kernel)
set_option maxRecDepth 65536 in
theorem w_c7 : (Jvm.Cond.code ({ cls := "com/example/iron_log/ironlog/consumequeue/QueueEntry", name := "isOfDamage", desc := "()Z" } : Jvm.MethodName) prog_44_method_10_code (1 : Nat) (Option.some Jvm.ClassFile.FieldType.boolean)).before args0 about1 = true := code_word (m := ⟨2, 2⟩) (meth := k2m2) (c := k2c2) (by decide +kernel) rfl rfl rfl (by decide +kernel)
def codes1 : List Jvm.Cond := [Jvm.Cond.code x code maxLocals ret, Jvm.Cond.code ({ cls := "com/example/iron_log/ironlog/consumequeue/QueueEntry", name := "<init>", desc := "(JIJ)V" } : Jvm.MethodName) prog_44_method_1_code (6 : Nat) (Option.none : Option Jvm.ClassFile.FieldType), Jvm.Cond.code ({ cls := "java/lang/Object", name := "<init>", desc := "()V" } : Jvm.MethodName) object_method_1_code (1 : Nat) (Option.none : Option Jvm.ClassFile.FieldType), Jvm.Cond.code ({ cls := "com/example/iron_log/ironlog/consumequeue/QueueEntry", name := "isUnwritten", desc := "()Z" } : Jvm.MethodName) prog_44_method_12_code (1 : Nat) (Option.some Jvm.ClassFile.FieldType.boolean), Jvm.Cond.code ({ cls := "com/example/iron_log/ironlog/consumequeue/QueueEntry", name := "equals", desc := "(Ljava/lang/Object;)Z" } : Jvm.MethodName) prog_44_method_13_code (3 : Nat) (Option.some Jvm.ClassFile.FieldType.boolean), Jvm.Cond.code ({ cls := "com/example/iron_log/ironlog/consumequeue/QueueEntry", name := "givesPlace", desc := "()Z" } : Jvm.MethodName) prog_44_method_9_code (1 : Nat) (Option.some Jvm.ClassFile.FieldType.boolean), Jvm.Cond.code ({ cls := "com/example/iron_log/ironlog/consumequeue/QueueEntry", name := "isLost", desc := "()Z" } : Jvm.MethodName) prog_44_method_11_code (1 : Nat) (Option.some Jvm.ClassFile.FieldType.boolean), Jvm.Cond.code ({ cls := "com/example/iron_log/ironlog/consumequeue/QueueEntry", name := "isOfDamage", desc := "()Z" } : Jvm.MethodName) prog_44_method_10_code (1 : Nat) (Option.some Jvm.ClassFile.FieldType.boolean)]
set_option maxRecDepth 65536 in
theorem codes_eq : words1.filter isCode = codes1 := rfl
theorem w_codes : ∀ c ∈ words1.filter isCode, c.before args0 about1 = true := by
  rw [codes_eq]
  intro c hc
  simp only [codes1, List.mem_cons, List.not_mem_nil, or_false] at hc
  rcases hc with rfl | rfl | rfl | rfl | rfl | rfl | rfl | rfl
  · exact w_c0
  · exact w_c1
  · exact w_c2
  · exact w_c3
  · exact w_c4
  · exact w_c5
  · exact w_c6
  · exact w_c7
set_option maxRecDepth 65536 in
theorem w_t1 : (words1.take 24).all (fun c => isCode c || c.before args0 about1) = true := by decide +kernel
set_option maxRecDepth 65536 in
theorem w_t2 : (words1.drop 24).all (fun c => isCode c || c.before args0 about1) = true := by decide +kernel
theorem w_tables : (allAtoms (Jvm.Cond.code x code maxLocals ret :: tables_1)).before args0 about1 = true := by
  rw [allAtoms_all]
  show words1.all (fun c => c.before args0 about1) = true
  refine all_split ?_ w_codes
  rw [← List.take_append_drop 24 words1, List.all_append, w_t1, w_t2]
  rfl
set_option maxRecDepth 65536 in
theorem w_case : (Jvm.Cond.and given_1 narrow_1).before args0 about1 = true := by decide +kernel
theorem w_applies : (headSpec (Jvm.Cond.code x code maxLocals ret :: tables_1) room_1).applies x e0.platform about1 = true :=
  (Spec.applies_iff w_frames).mpr ⟨w_running, w_runnable, w_alone, w_named, w_hears, w_ripe, w_room, w_tables⟩
theorem atStart : AtStart classFile x code maxLocals ret World_1 tables_1 room_1 Calls_1 rest_1 Pre_1 launch0 p0 e0 about1 theMethod args0 below0 :=
  ⟨lists_1, trivial, launch0.admits_env _ _ _, launch0.least_env, fairChoices_fair.cas, fairChoices_fair.clock, w_frames, w_args, w_heap, w_applies, trivial, trivial, w_case⟩
end start1
theorem witness_1 : WitnessClaimed_1 := ⟨start1.p0, start1.e0, start1.about1, start1.theMethod, start1.args0, start1.below0, start1.atStart⟩
end Jvm.Pilot.@@N@@
