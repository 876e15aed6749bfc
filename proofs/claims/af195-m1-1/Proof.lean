import JvmDerived
import JvmDerived.Pilot.@@N@@Statement
import JvmDerived.Pilot.@@N@@Code
set_option linter.unusedVariables false
set_option linter.unusedSimpArgs false
@@BLOCK:NumsL.lean.txt@@
namespace Jvm.Pilot.@@N@@
open Jvm Jvm.ClassFile Sem Op Lib Jvm.Free Jvm.Stand Jvm.LawKit Jvm.RoadKit Bundle Jvm.Pilot.@@N@@.Jvm.D
section Own
variable {p : Program} {l : Launch} {e : Env} {R : Room} {s : State} {m : MethodId} {args : Array Value} {below : List Frame} {meth : Method} {c : Code} {T : State} {locs : List Loc} {cells slots : Nat} {Q : Option Value → Heap → List Loc → Prop} {kc ks : Nat} {G : State → Outcome → State → List Loc → Nat → Nat → Prop}
/-- the run from U returns; Q says of what it returned, of the heap and of the places written; kc, ks: how much it may have made -/
def own_Ends (p : Program) (e : Env) (below : List Frame) (s : State) (G : State → Outcome → State → List Loc → Nat → Nat → Prop) (Q : Option Value → Heap → List Loc → Prop) (kc ks : Nat) (U : State) : Prop :=
  ∃ s₂ o, Steps p.tables e below U s₂ ∧ s₂.status = .running ∧ Ended s₂ below o ∧ ∃ v L, o = .returned v ∧ Q v s₂.heap L ∧ G s o s₂ L kc ks
theorem own_of {U U' : State} (h : ∀ t, Steps p.tables e below U' t → Steps p.tables e below U t) (k : own_Ends p e below s G Q kc ks U') : own_Ends p e below s G Q kc ks U := by
  obtain ⟨s₂, o, h1, r⟩ := k
  exact ⟨s₂, o, h _ h1, r⟩
theorem own_eq {U U' : State} (h : U = U') (k : own_Ends p e below s G Q kc ks U') : own_Ends p e below s G Q kc ks U := h ▸ k
theorem own_retN (X : Stand p l e R s m args below meth c T locs cells slots) (hx : p.tables.exec = Jvm.exec) (hlk : meth.locks = false) {pc : Nat} {Ls : Array Slot} {z : Int32} {t : FieldType} {rest : List Value} (hret : meth.sig.returnType = some t) (ht : t = .boolean ∨ t = .byte ∨ t = .char ∨ t = .short)
    (hd : decode c.code pc = .ok (.ireturn, 1)) (hc : cells ≤ kc) (hs : slots ≤ ks) (hq : Q (some (.int (nar t z))) T.heap locs) : own_Ends p e below s FrameEnd Q kc ks (T.setTop (mkF m pc Ls (.int z :: rest))) := by
  obtain ⟨fs, hr, hrun, hended, hW, hsame⟩ := X.leave (v := some (.int (nar t z))) (fun h => by rw [hret] at h; cases h) hlk
  exact ⟨_, _, retN X hx hret ht hd hr, hrun, hended, _, _, rfl, hq, ⟨_, rfl⟩, hW, hsame.mono hc hs⟩
theorem own_retI (X : Stand p l e R s m args below meth c T locs cells slots) (hx : p.tables.exec = Jvm.exec) (hlk : meth.locks = false) {pc : Nat} {Ls : Array Slot} {z : Int32} {rest : List Value} (hret : meth.sig.returnType = some .int)
    (hd : decode c.code pc = .ok (.ireturn, 1)) (hc : cells ≤ kc) (hs : slots ≤ ks) (hq : Q (some (.int z)) T.heap locs) : own_Ends p e below s FrameEnd Q kc ks (T.setTop (mkF m pc Ls (.int z :: rest))) := by
  obtain ⟨fs, hr, hrun, hended, hW, hsame⟩ := X.leave (v := some (.int z)) (fun h => by rw [hret] at h; cases h) hlk
  exact ⟨_, _, retOut X hx hret rfl (Or.inl ⟨rfl, Or.inl rfl, _, rfl⟩) hd hr, hrun, hended, _, _, rfl, hq, ⟨_, rfl⟩, hW, hsame.mono hc hs⟩
theorem own_retL (X : Stand p l e R s m args below meth c T locs cells slots) (hx : p.tables.exec = Jvm.exec) (hlk : meth.locks = false) {pc : Nat} {Ls : Array Slot} {z : Int64} {rest : List Value} (hret : meth.sig.returnType = some .long)
    (hd : decode c.code pc = .ok (.lreturn, 1)) (hc : cells ≤ kc) (hs : slots ≤ ks) (hq : Q (some (.long z)) T.heap locs) : own_Ends p e below s FrameEnd Q kc ks (T.setTop (mkF m pc Ls (.long z :: rest))) := by
  obtain ⟨fs, hr, hrun, hended, hW, hsame⟩ := X.leave (v := some (.long z)) (fun h => by rw [hret] at h; cases h) hlk
  exact ⟨_, _, retOut X hx hret rfl (Or.inr (Or.inl ⟨rfl, rfl, _, rfl⟩)) hd hr, hrun, hended, _, _, rfl, hq, ⟨_, rfl⟩, hW, hsame.mono hc hs⟩
theorem own_retA (X : Stand p l e R s m args below meth c T locs cells slots) (hx : p.tables.exec = Jvm.exec) (hlk : meth.locks = false) {pc : Nat} {Ls : Array Slot} {w : Value} {t : FieldType} {rest : List Value} (hret : meth.sig.returnType = some t) (ht : t.isReference = true) (hw : w.isRef = true)
    (hd : decode c.code pc = .ok (.areturn, 1)) (hc : cells ≤ kc) (hs : slots ≤ ks) (hq : Q (some w) T.heap locs) : own_Ends p e below s FrameEnd Q kc ks (T.setTop (mkF m pc Ls (w :: rest))) := by
  obtain ⟨fs, hr, hrun, hended, hW, hsame⟩ := X.leave (v := some w) (fun h => by rw [hret] at h; cases h) hlk
  have hn : narrow t w = w := by cases t <;> first | (cases ht; done) | rfl | (cases w <;> rfl)
  exact ⟨_, _, retOut X hx hret hn (Or.inr (Or.inr (Or.inr (Or.inr ⟨rfl, ht, hw⟩)))) hd hr, hrun, hended, _, _, rfl, hq, ⟨_, rfl⟩, hW, hsame.mono hc hs⟩
theorem own_ret0 (X : Stand p l e R s m args below meth c T locs cells slots) (hx : p.tables.exec = Jvm.exec) (hlk : meth.locks = false) {pc : Nat} {Ls : Array Slot} (hret : meth.sig.returnType = none)
    (hd : decode c.code pc = .ok (.return_, 1)) (hc : cells ≤ kc) (hs : slots ≤ ks) (hq : Q none T.heap locs) : own_Ends p e below s FrameEnd Q kc ks (T.setTop (mkF m pc Ls [])) := by
  obtain ⟨fs, hr, hrun, hended, hW, hsame⟩ := X.leave (v := none) (fun _ => rfl) hlk
  exact ⟨_, _, X.returnOut hx hret hd hr, hrun, hended, _, _, rfl, hq, ⟨_, rfl⟩, hW, hsame.mono hc hs⟩
variable {vm₁ : Vm} {nS : Nat}
theorem own_monoW {t : State} {o : Outcome} {L : List Loc} {k n k' n' : Nat} (h : ReturnedEndW s o t L k n) (hk : k ≤ k') (hn : n ≤ n') : ReturnedEndW s o t L k' n' := ⟨h.1, h.2.1, h.2.2.1, h.2.2.2.mono hk hn⟩
theorem own_retNW (X : Stand p l e R (s.setVm vm₁) m args below meth c T locs cells slots) (hx : p.tables.exec = Jvm.exec) (hlk : meth.locks = false) (hS : s.Since vm₁ nS) (hk : nS ≤ T.heap.size) {pc : Nat} {Ls : Array Slot} {z : Int32} {t : FieldType} {rest : List Value} (hret : meth.sig.returnType = some t) (ht : t = .boolean ∨ t = .byte ∨ t = .char ∨ t = .short)
    (hd : decode c.code pc = .ok (.ireturn, 1)) (hc : cells ≤ kc) (hs : slots ≤ ks) (hq : Q (some (.int (nar t z))) T.heap locs) : own_Ends p e below s ReturnedEndW Q kc ks (T.setTop (mkF m pc Ls (.int z :: rest))) := by
  obtain ⟨fs, hr, hrun, hended, hW⟩ := X.leaveW hS hk (v := some (.int (nar t z))) (fun h => by rw [hret] at h; cases h) hlk
  exact ⟨_, _, retN X hx hret ht hd hr, hrun, hended, _, _, rfl, hq, own_monoW hW hc hs⟩
theorem own_retIW (X : Stand p l e R (s.setVm vm₁) m args below meth c T locs cells slots) (hx : p.tables.exec = Jvm.exec) (hlk : meth.locks = false) (hS : s.Since vm₁ nS) (hk : nS ≤ T.heap.size) {pc : Nat} {Ls : Array Slot} {z : Int32} {rest : List Value} (hret : meth.sig.returnType = some .int)
    (hd : decode c.code pc = .ok (.ireturn, 1)) (hc : cells ≤ kc) (hs : slots ≤ ks) (hq : Q (some (.int z)) T.heap locs) : own_Ends p e below s ReturnedEndW Q kc ks (T.setTop (mkF m pc Ls (.int z :: rest))) := by
  obtain ⟨fs, hr, hrun, hended, hW⟩ := X.leaveW hS hk (v := some (.int z)) (fun h => by rw [hret] at h; cases h) hlk
  exact ⟨_, _, retOut X hx hret rfl (Or.inl ⟨rfl, Or.inl rfl, _, rfl⟩) hd hr, hrun, hended, _, _, rfl, hq, own_monoW hW hc hs⟩
theorem own_retAW (X : Stand p l e R (s.setVm vm₁) m args below meth c T locs cells slots) (hx : p.tables.exec = Jvm.exec) (hlk : meth.locks = false) (hS : s.Since vm₁ nS) (hk : nS ≤ T.heap.size) {pc : Nat} {Ls : Array Slot} {w : Value} {t : FieldType} {rest : List Value} (hret : meth.sig.returnType = some t) (ht : t.isReference = true) (hw : w.isRef = true)
    (hd : decode c.code pc = .ok (.areturn, 1)) (hc : cells ≤ kc) (hs : slots ≤ ks) (hq : Q (some w) T.heap locs) : own_Ends p e below s ReturnedEndW Q kc ks (T.setTop (mkF m pc Ls (w :: rest))) := by
  obtain ⟨fs, hr, hrun, hended, hW⟩ := X.leaveW hS hk (v := some w) (fun h => by rw [hret] at h; cases h) hlk
  have hn : narrow t w = w := by cases t <;> first | (cases ht; done) | rfl | (cases w <;> rfl)
  exact ⟨_, _, retOut X hx hret hn (Or.inr (Or.inr (Or.inr (Or.inr ⟨rfl, ht, hw⟩)))) hd hr, hrun, hended, _, _, rfl, hq, own_monoW hW hc hs⟩
theorem own_ret0W (X : Stand p l e R (s.setVm vm₁) m args below meth c T locs cells slots) (hx : p.tables.exec = Jvm.exec) (hlk : meth.locks = false) (hS : s.Since vm₁ nS) (hk : nS ≤ T.heap.size) {pc : Nat} {Ls : Array Slot} (hret : meth.sig.returnType = none)
    (hd : decode c.code pc = .ok (.return_, 1)) (hc : cells ≤ kc) (hs : slots ≤ ks) (hq : Q none T.heap locs) : own_Ends p e below s ReturnedEndW Q kc ks (T.setTop (mkF m pc Ls [])) := by
  obtain ⟨fs, hr, hrun, hended, hW⟩ := X.leaveW hS hk (v := none) (fun _ => rfl) hlk
  exact ⟨_, _, X.returnOut hx hret hd hr, hrun, hended, _, _, rfl, hq, own_monoW hW hc hs⟩
end Own
theorem own_b1 : nar .boolean (1 : Int32) = 1 := rfl
theorem own_b0 : nar .boolean (0 : Int32) = 0 := rfl
section Own2
variable {p : Program} {l : Launch} {e : Env} {R : Room} {s sS : State} {m : MethodId} {args : Array Value} {below : List Frame} {meth : Method} {c : Code} {T : State} {locs : List Loc} {cells slots : Nat} {Q : Option Value → Heap → List Loc → Prop} {kc ks : Nat} {G : State → Outcome → State → List Loc → Nat → Nat → Prop}
theorem own_iloadN (X : Stand p l e R sS m args below meth c T locs cells slots) (hx : p.tables.exec = Jvm.exec) {code : ByteArray} (hby : c.code = code) {pc : Nat} {Ls : Array Slot} {St : List Value} {k : Fin 4} {v : Int32} (hd : decode code pc = .ok (.iload_n k, 1)) (hl : Ls[k.val]? = some (.val (.int v))) (k : own_Ends p e below s G Q kc ks (T.setTop (mkF m (pc + 1) Ls (.int v :: St)))) : own_Ends p e below s G Q kc ks (T.setTop (mkF m pc Ls (St))) := own_of (fun _ q => XS.iloadN X.here hx rfl (hb hby hd) hl q) k
theorem own_iload (X : Stand p l e R sS m args below meth c T locs cells slots) (hx : p.tables.exec = Jvm.exec) {code : ByteArray} (hby : c.code = code) {pc : Nat} {Ls : Array Slot} {St : List Value} {k : Nat} {v : Int32} (hd : decode code pc = .ok (.iload k, 2)) (hl : Ls[k]? = some (.val (.int v))) (k : own_Ends p e below s G Q kc ks (T.setTop (mkF m (pc + 2) Ls (.int v :: St)))) : own_Ends p e below s G Q kc ks (T.setTop (mkF m pc Ls (St))) := own_of (fun _ q => XS.iload X.here hx rfl (hb hby hd) hl q) k
theorem own_lloadN (X : Stand p l e R sS m args below meth c T locs cells slots) (hx : p.tables.exec = Jvm.exec) {code : ByteArray} (hby : c.code = code) {pc : Nat} {Ls : Array Slot} {St : List Value} {k : Fin 4} {v : Int64} (hd : decode code pc = .ok (.lload_n k, 1)) (hl : Ls[k.val]? = some (.val (.long v))) (k : own_Ends p e below s G Q kc ks (T.setTop (mkF m (pc + 1) Ls (.long v :: St)))) : own_Ends p e below s G Q kc ks (T.setTop (mkF m pc Ls (St))) := own_of (fun _ q => XT.lloadN X.here hx rfl (hb hby hd) hl q) k
theorem own_lload (X : Stand p l e R sS m args below meth c T locs cells slots) (hx : p.tables.exec = Jvm.exec) {code : ByteArray} (hby : c.code = code) {pc : Nat} {Ls : Array Slot} {St : List Value} {k : Nat} {v : Int64} (hd : decode code pc = .ok (.lload k, 2)) (hl : Ls[k]? = some (.val (.long v))) (k : own_Ends p e below s G Q kc ks (T.setTop (mkF m (pc + 2) Ls (.long v :: St)))) : own_Ends p e below s G Q kc ks (T.setTop (mkF m pc Ls (St))) := own_of (fun _ q => XT.lload X.here hx rfl (hb hby hd) hl q) k
theorem own_dloadN (X : Stand p l e R sS m args below meth c T locs cells slots) (hx : p.tables.exec = Jvm.exec) {code : ByteArray} (hby : c.code = code) {pc : Nat} {Ls : Array Slot} {St : List Value} {k : Fin 4} {v : UInt64} (hd : decode code pc = .ok (.dload_n k, 1)) (hl : Ls[k.val]? = some (.val (.double v))) (k : own_Ends p e below s G Q kc ks (T.setTop (mkF m (pc + 1) Ls (.double v :: St)))) : own_Ends p e below s G Q kc ks (T.setTop (mkF m pc Ls (St))) := own_of (fun _ q => XS.dloadN X.here hx rfl (hb hby hd) hl q) k
theorem own_dload (X : Stand p l e R sS m args below meth c T locs cells slots) (hx : p.tables.exec = Jvm.exec) {code : ByteArray} (hby : c.code = code) {pc : Nat} {Ls : Array Slot} {St : List Value} {k : Nat} {v : UInt64} (hd : decode code pc = .ok (.dload k, 2)) (hl : Ls[k]? = some (.val (.double v))) (k : own_Ends p e below s G Q kc ks (T.setTop (mkF m (pc + 2) Ls (.double v :: St)))) : own_Ends p e below s G Q kc ks (T.setTop (mkF m pc Ls (St))) := own_of (fun _ q => XS.dload X.here hx rfl (hb hby hd) hl q) k
theorem own_aloadN (X : Stand p l e R sS m args below meth c T locs cells slots) (hx : p.tables.exec = Jvm.exec) {code : ByteArray} (hby : c.code = code) {pc : Nat} {Ls : Array Slot} {St : List Value} {k : Fin 4} {v : Value} (hd : decode code pc = .ok (.aload_n k, 1)) (hl : Ls[k.val]? = some (.val v)) (hv : v.isRef = true) (k : own_Ends p e below s G Q kc ks (T.setTop (mkF m (pc + 1) Ls (v :: St)))) : own_Ends p e below s G Q kc ks (T.setTop (mkF m pc Ls (St))) := own_of (fun _ q => XS.aloadN X.here hx rfl (hb hby hd) hl hv q) k
theorem own_aload (X : Stand p l e R sS m args below meth c T locs cells slots) (hx : p.tables.exec = Jvm.exec) {code : ByteArray} (hby : c.code = code) {pc : Nat} {Ls : Array Slot} {St : List Value} {k : Nat} {v : Value} (hd : decode code pc = .ok (.aload k, 2)) (hl : Ls[k]? = some (.val v)) (hv : v.isRef = true) (k : own_Ends p e below s G Q kc ks (T.setTop (mkF m (pc + 2) Ls (v :: St)))) : own_Ends p e below s G Q kc ks (T.setTop (mkF m pc Ls (St))) := own_of (fun _ q => XS.aload X.here hx rfl (hb hby hd) hl hv q) k
theorem own_istoreN (X : Stand p l e R sS m args below meth c T locs cells slots) (hx : p.tables.exec = Jvm.exec) {code : ByteArray} (hby : c.code = code) {pc : Nat} {Ls : Array Slot} {St : List Value} {k : Fin 4} {x : Int32} {l' : Array Slot} (hd : decode code pc = .ok (.istore_n k, 1)) (hl : storeLocals Ls k.val (.int x) = some l') (k : own_Ends p e below s G Q kc ks (T.setTop (mkF m (pc + 1) l' (St)))) : own_Ends p e below s G Q kc ks (T.setTop (mkF m pc Ls (.int x :: St))) := own_of (fun _ q => XS.istoreN X.here hx rfl (hb hby hd) rfl hl q) k
theorem own_istore (X : Stand p l e R sS m args below meth c T locs cells slots) (hx : p.tables.exec = Jvm.exec) {code : ByteArray} (hby : c.code = code) {pc : Nat} {Ls : Array Slot} {St : List Value} {k : Nat} {x : Int32} {l' : Array Slot} (hd : decode code pc = .ok (.istore k, 2)) (hl : storeLocals Ls k (.int x) = some l') (k : own_Ends p e below s G Q kc ks (T.setTop (mkF m (pc + 2) l' (St)))) : own_Ends p e below s G Q kc ks (T.setTop (mkF m pc Ls (.int x :: St))) := own_of (fun _ q => XS.istore X.here hx rfl (hb hby hd) rfl hl q) k
theorem own_lstoreN (X : Stand p l e R sS m args below meth c T locs cells slots) (hx : p.tables.exec = Jvm.exec) {code : ByteArray} (hby : c.code = code) {pc : Nat} {Ls : Array Slot} {St : List Value} {k : Fin 4} {x : Int64} {l' : Array Slot} (hd : decode code pc = .ok (.lstore_n k, 1)) (hl : storeLocals Ls k.val (.long x) = some l') (k : own_Ends p e below s G Q kc ks (T.setTop (mkF m (pc + 1) l' (St)))) : own_Ends p e below s G Q kc ks (T.setTop (mkF m pc Ls (.long x :: St))) := own_of (fun _ q => XT.lstoreN X.here hx rfl (hb hby hd) rfl hl q) k
theorem own_lstore (X : Stand p l e R sS m args below meth c T locs cells slots) (hx : p.tables.exec = Jvm.exec) {code : ByteArray} (hby : c.code = code) {pc : Nat} {Ls : Array Slot} {St : List Value} {k : Nat} {x : Int64} {l' : Array Slot} (hd : decode code pc = .ok (.lstore k, 2)) (hl : storeLocals Ls k (.long x) = some l') (k : own_Ends p e below s G Q kc ks (T.setTop (mkF m (pc + 2) l' (St)))) : own_Ends p e below s G Q kc ks (T.setTop (mkF m pc Ls (.long x :: St))) := own_of (fun _ q => XT.lstore X.here hx rfl (hb hby hd) rfl hl q) k
theorem own_astoreN (X : Stand p l e R sS m args below meth c T locs cells slots) (hx : p.tables.exec = Jvm.exec) {code : ByteArray} (hby : c.code = code) {pc : Nat} {Ls : Array Slot} {St : List Value} {k : Fin 4} {x : Value} {l' : Array Slot} (hd : decode code pc = .ok (.astore_n k, 1)) (hv : x.isRef = true) (hl : storeLocals Ls k.val x = some l') (k : own_Ends p e below s G Q kc ks (T.setTop (mkF m (pc + 1) l' (St)))) : own_Ends p e below s G Q kc ks (T.setTop (mkF m pc Ls (x :: St))) := own_of (fun _ q => XS.astoreN X.here hx rfl (hb hby hd) rfl hv hl q) k
theorem own_astore (X : Stand p l e R sS m args below meth c T locs cells slots) (hx : p.tables.exec = Jvm.exec) {code : ByteArray} (hby : c.code = code) {pc : Nat} {Ls : Array Slot} {St : List Value} {k : Nat} {x : Value} {l' : Array Slot} (hd : decode code pc = .ok (.astore k, 2)) (hv : x.isRef = true) (hl : storeLocals Ls k x = some l') (k : own_Ends p e below s G Q kc ks (T.setTop (mkF m (pc + 2) l' (St)))) : own_Ends p e below s G Q kc ks (T.setTop (mkF m pc Ls (x :: St))) := own_of (fun _ q => XS.astore X.here hx rfl (hb hby hd) rfl hv hl q) k
theorem own_aconstNull (X : Stand p l e R sS m args below meth c T locs cells slots) (hx : p.tables.exec = Jvm.exec) {code : ByteArray} (hby : c.code = code) {pc : Nat} {Ls : Array Slot} {St : List Value}  (hd : decode code pc = .ok (.aconst_null, 1)) (k : own_Ends p e below s G Q kc ks (T.setTop (mkF m (pc + 1) Ls (.null :: St)))) : own_Ends p e below s G Q kc ks (T.setTop (mkF m pc Ls (St))) := own_of (fun _ q => XS.aconstNull X.here hx rfl (hb hby hd) q) k
theorem own_iadd (X : Stand p l e R sS m args below meth c T locs cells slots) (hx : p.tables.exec = Jvm.exec) {code : ByteArray} (hby : c.code = code) {pc : Nat} {Ls : Array Slot} {St : List Value} {x y : Int32} (hd : decode code pc = .ok (.iadd, 1)) (k : own_Ends p e below s G Q kc ks (T.setTop (mkF m (pc + 1) Ls (.int (x + y) :: St)))) : own_Ends p e below s G Q kc ks (T.setTop (mkF m pc Ls (.int y :: .int x :: St))) := own_of (fun _ q => XS.iadd X.here hx rfl (hb hby hd) rfl q) k
theorem own_isub (X : Stand p l e R sS m args below meth c T locs cells slots) (hx : p.tables.exec = Jvm.exec) {code : ByteArray} (hby : c.code = code) {pc : Nat} {Ls : Array Slot} {St : List Value} {x y : Int32} (hd : decode code pc = .ok (.isub, 1)) (k : own_Ends p e below s G Q kc ks (T.setTop (mkF m (pc + 1) Ls (.int (x - y) :: St)))) : own_Ends p e below s G Q kc ks (T.setTop (mkF m pc Ls (.int y :: .int x :: St))) := own_of (fun _ q => XS.isub X.here hx rfl (hb hby hd) rfl q) k
theorem own_imul (X : Stand p l e R sS m args below meth c T locs cells slots) (hx : p.tables.exec = Jvm.exec) {code : ByteArray} (hby : c.code = code) {pc : Nat} {Ls : Array Slot} {St : List Value} {x y : Int32} (hd : decode code pc = .ok (.imul, 1)) (k : own_Ends p e below s G Q kc ks (T.setTop (mkF m (pc + 1) Ls (.int (x * y) :: St)))) : own_Ends p e below s G Q kc ks (T.setTop (mkF m pc Ls (.int y :: .int x :: St))) := own_of (fun _ q => XS.imul X.here hx rfl (hb hby hd) rfl q) k
theorem own_iand (X : Stand p l e R sS m args below meth c T locs cells slots) (hx : p.tables.exec = Jvm.exec) {code : ByteArray} (hby : c.code = code) {pc : Nat} {Ls : Array Slot} {St : List Value} {x y : Int32} (hd : decode code pc = .ok (.iand, 1)) (k : own_Ends p e below s G Q kc ks (T.setTop (mkF m (pc + 1) Ls (.int (x &&& y) :: St)))) : own_Ends p e below s G Q kc ks (T.setTop (mkF m pc Ls (.int y :: .int x :: St))) := own_of (fun _ q => XS.iand X.here hx rfl (hb hby hd) rfl q) k
theorem own_ior (X : Stand p l e R sS m args below meth c T locs cells slots) (hx : p.tables.exec = Jvm.exec) {code : ByteArray} (hby : c.code = code) {pc : Nat} {Ls : Array Slot} {St : List Value} {x y : Int32} (hd : decode code pc = .ok (.ior, 1)) (k : own_Ends p e below s G Q kc ks (T.setTop (mkF m (pc + 1) Ls (.int (x ||| y) :: St)))) : own_Ends p e below s G Q kc ks (T.setTop (mkF m pc Ls (.int y :: .int x :: St))) := own_of (fun _ q => XT.ior X.here hx rfl (hb hby hd) rfl q) k
theorem own_ixor (X : Stand p l e R sS m args below meth c T locs cells slots) (hx : p.tables.exec = Jvm.exec) {code : ByteArray} (hby : c.code = code) {pc : Nat} {Ls : Array Slot} {St : List Value} {x y : Int32} (hd : decode code pc = .ok (.ixor, 1)) (k : own_Ends p e below s G Q kc ks (T.setTop (mkF m (pc + 1) Ls (.int (x ^^^ y) :: St)))) : own_Ends p e below s G Q kc ks (T.setTop (mkF m pc Ls (.int y :: .int x :: St))) := own_of (fun _ q => XT.ixor X.here hx rfl (hb hby hd) rfl q) k
theorem own_ladd (X : Stand p l e R sS m args below meth c T locs cells slots) (hx : p.tables.exec = Jvm.exec) {code : ByteArray} (hby : c.code = code) {pc : Nat} {Ls : Array Slot} {St : List Value} {x y : Int64} (hd : decode code pc = .ok (.ladd, 1)) (k : own_Ends p e below s G Q kc ks (T.setTop (mkF m (pc + 1) Ls (.long (x + y) :: St)))) : own_Ends p e below s G Q kc ks (T.setTop (mkF m pc Ls (.long y :: .long x :: St))) := own_of (fun _ q => XT.ladd X.here hx rfl (hb hby hd) rfl q) k
theorem own_lsub (X : Stand p l e R sS m args below meth c T locs cells slots) (hx : p.tables.exec = Jvm.exec) {code : ByteArray} (hby : c.code = code) {pc : Nat} {Ls : Array Slot} {St : List Value} {x y : Int64} (hd : decode code pc = .ok (.lsub, 1)) (k : own_Ends p e below s G Q kc ks (T.setTop (mkF m (pc + 1) Ls (.long (x - y) :: St)))) : own_Ends p e below s G Q kc ks (T.setTop (mkF m pc Ls (.long y :: .long x :: St))) := own_of (fun _ q => XT.lsub X.here hx rfl (hb hby hd) rfl q) k
theorem own_lmul (X : Stand p l e R sS m args below meth c T locs cells slots) (hx : p.tables.exec = Jvm.exec) {code : ByteArray} (hby : c.code = code) {pc : Nat} {Ls : Array Slot} {St : List Value} {x y : Int64} (hd : decode code pc = .ok (.lmul, 1)) (k : own_Ends p e below s G Q kc ks (T.setTop (mkF m (pc + 1) Ls (.long (x * y) :: St)))) : own_Ends p e below s G Q kc ks (T.setTop (mkF m pc Ls (.long y :: .long x :: St))) := own_of (fun _ q => XT.lmul X.here hx rfl (hb hby hd) rfl q) k
theorem own_land (X : Stand p l e R sS m args below meth c T locs cells slots) (hx : p.tables.exec = Jvm.exec) {code : ByteArray} (hby : c.code = code) {pc : Nat} {Ls : Array Slot} {St : List Value} {x y : Int64} (hd : decode code pc = .ok (.land, 1)) (k : own_Ends p e below s G Q kc ks (T.setTop (mkF m (pc + 1) Ls (.long (x &&& y) :: St)))) : own_Ends p e below s G Q kc ks (T.setTop (mkF m pc Ls (.long y :: .long x :: St))) := own_of (fun _ q => XT.land X.here hx rfl (hb hby hd) rfl q) k
theorem own_lor (X : Stand p l e R sS m args below meth c T locs cells slots) (hx : p.tables.exec = Jvm.exec) {code : ByteArray} (hby : c.code = code) {pc : Nat} {Ls : Array Slot} {St : List Value} {x y : Int64} (hd : decode code pc = .ok (.lor, 1)) (k : own_Ends p e below s G Q kc ks (T.setTop (mkF m (pc + 1) Ls (.long (x ||| y) :: St)))) : own_Ends p e below s G Q kc ks (T.setTop (mkF m pc Ls (.long y :: .long x :: St))) := own_of (fun _ q => XT.lor X.here hx rfl (hb hby hd) rfl q) k
theorem own_lxor (X : Stand p l e R sS m args below meth c T locs cells slots) (hx : p.tables.exec = Jvm.exec) {code : ByteArray} (hby : c.code = code) {pc : Nat} {Ls : Array Slot} {St : List Value} {x y : Int64} (hd : decode code pc = .ok (.lxor, 1)) (k : own_Ends p e below s G Q kc ks (T.setTop (mkF m (pc + 1) Ls (.long (x ^^^ y) :: St)))) : own_Ends p e below s G Q kc ks (T.setTop (mkF m pc Ls (.long y :: .long x :: St))) := own_of (fun _ q => XT.lxor X.here hx rfl (hb hby hd) rfl q) k
theorem own_ishl (X : Stand p l e R sS m args below meth c T locs cells slots) (hx : p.tables.exec = Jvm.exec) {code : ByteArray} (hby : c.code = code) {pc : Nat} {Ls : Array Slot} {St : List Value} {x y : Int32} (hd : decode code pc = .ok (.ishl, 1)) (k : own_Ends p e below s G Q kc ks (T.setTop (mkF m (pc + 1) Ls (.int (x <<< (y &&& 31)) :: St)))) : own_Ends p e below s G Q kc ks (T.setTop (mkF m pc Ls (.int y :: .int x :: St))) := own_of (fun _ q => XT.ishl X.here hx rfl (hb hby hd) rfl q) k
theorem own_ishr (X : Stand p l e R sS m args below meth c T locs cells slots) (hx : p.tables.exec = Jvm.exec) {code : ByteArray} (hby : c.code = code) {pc : Nat} {Ls : Array Slot} {St : List Value} {x y : Int32} (hd : decode code pc = .ok (.ishr, 1)) (k : own_Ends p e below s G Q kc ks (T.setTop (mkF m (pc + 1) Ls (.int (x >>> (y &&& 31)) :: St)))) : own_Ends p e below s G Q kc ks (T.setTop (mkF m pc Ls (.int y :: .int x :: St))) := own_of (fun _ q => XT.ishr X.here hx rfl (hb hby hd) rfl q) k
theorem own_iushr (X : Stand p l e R sS m args below meth c T locs cells slots) (hx : p.tables.exec = Jvm.exec) {code : ByteArray} (hby : c.code = code) {pc : Nat} {Ls : Array Slot} {St : List Value} {x y : Int32} (hd : decode code pc = .ok (.iushr, 1)) (k : own_Ends p e below s G Q kc ks (T.setTop (mkF m (pc + 1) Ls (.int (XT.ushr x y) :: St)))) : own_Ends p e below s G Q kc ks (T.setTop (mkF m pc Ls (.int y :: .int x :: St))) := own_of (fun _ q => XT.iushr X.here hx rfl (hb hby hd) rfl q) k
theorem own_lshl (X : Stand p l e R sS m args below meth c T locs cells slots) (hx : p.tables.exec = Jvm.exec) {code : ByteArray} (hby : c.code = code) {pc : Nat} {Ls : Array Slot} {St : List Value} {x : Int64} {y : Int32} (hd : decode code pc = .ok (.lshl, 1)) (k : own_Ends p e below s G Q kc ks (T.setTop (mkF m (pc + 1) Ls (.long (x <<< (y.toInt64 &&& 63)) :: St)))) : own_Ends p e below s G Q kc ks (T.setTop (mkF m pc Ls (.int y :: .long x :: St))) := own_of (fun _ q => XT.lshl X.here hx rfl (hb hby hd) rfl q) k
theorem own_lshr (X : Stand p l e R sS m args below meth c T locs cells slots) (hx : p.tables.exec = Jvm.exec) {code : ByteArray} (hby : c.code = code) {pc : Nat} {Ls : Array Slot} {St : List Value} {x : Int64} {y : Int32} (hd : decode code pc = .ok (.lshr, 1)) (k : own_Ends p e below s G Q kc ks (T.setTop (mkF m (pc + 1) Ls (.long (x >>> (y.toInt64 &&& 63)) :: St)))) : own_Ends p e below s G Q kc ks (T.setTop (mkF m pc Ls (.int y :: .long x :: St))) := own_of (fun _ q => XT.lshr X.here hx rfl (hb hby hd) rfl q) k
theorem own_lushr (X : Stand p l e R sS m args below meth c T locs cells slots) (hx : p.tables.exec = Jvm.exec) {code : ByteArray} (hby : c.code = code) {pc : Nat} {Ls : Array Slot} {St : List Value} {x : Int64} {y : Int32} (hd : decode code pc = .ok (.lushr, 1)) (k : own_Ends p e below s G Q kc ks (T.setTop (mkF m (pc + 1) Ls (.long (XT.ushrL x y) :: St)))) : own_Ends p e below s G Q kc ks (T.setTop (mkF m pc Ls (.int y :: .long x :: St))) := own_of (fun _ q => XT.lushr X.here hx rfl (hb hby hd) rfl q) k
theorem own_ineg (X : Stand p l e R sS m args below meth c T locs cells slots) (hx : p.tables.exec = Jvm.exec) {code : ByteArray} (hby : c.code = code) {pc : Nat} {Ls : Array Slot} {St : List Value} {x : Int32} (hd : decode code pc = .ok (.ineg, 1)) (k : own_Ends p e below s G Q kc ks (T.setTop (mkF m (pc + 1) Ls (.int (-x) :: St)))) : own_Ends p e below s G Q kc ks (T.setTop (mkF m pc Ls (.int x :: St))) := own_of (fun _ q => XS.ineg X.here hx rfl (hb hby hd) rfl q) k
theorem own_lneg (X : Stand p l e R sS m args below meth c T locs cells slots) (hx : p.tables.exec = Jvm.exec) {code : ByteArray} (hby : c.code = code) {pc : Nat} {Ls : Array Slot} {St : List Value} {x : Int64} (hd : decode code pc = .ok (.lneg, 1)) (k : own_Ends p e below s G Q kc ks (T.setTop (mkF m (pc + 1) Ls (.long (-x) :: St)))) : own_Ends p e below s G Q kc ks (T.setTop (mkF m pc Ls (.long x :: St))) := own_of (fun _ q => XT.lneg X.here hx rfl (hb hby hd) rfl q) k
theorem own_i2l (X : Stand p l e R sS m args below meth c T locs cells slots) (hx : p.tables.exec = Jvm.exec) {code : ByteArray} (hby : c.code = code) {pc : Nat} {Ls : Array Slot} {St : List Value} {x : Int32} (hd : decode code pc = .ok (.i2l, 1)) (k : own_Ends p e below s G Q kc ks (T.setTop (mkF m (pc + 1) Ls (.long (x.toInt64) :: St)))) : own_Ends p e below s G Q kc ks (T.setTop (mkF m pc Ls (.int x :: St))) := own_of (fun _ q => XT.i2l X.here hx rfl (hb hby hd) rfl q) k
theorem own_l2i (X : Stand p l e R sS m args below meth c T locs cells slots) (hx : p.tables.exec = Jvm.exec) {code : ByteArray} (hby : c.code = code) {pc : Nat} {Ls : Array Slot} {St : List Value} {x : Int64} (hd : decode code pc = .ok (.l2i, 1)) (k : own_Ends p e below s G Q kc ks (T.setTop (mkF m (pc + 1) Ls (.int (x.toInt32) :: St)))) : own_Ends p e below s G Q kc ks (T.setTop (mkF m pc Ls (.long x :: St))) := own_of (fun _ q => XT.l2i X.here hx rfl (hb hby hd) rfl q) k
theorem own_i2b (X : Stand p l e R sS m args below meth c T locs cells slots) (hx : p.tables.exec = Jvm.exec) {code : ByteArray} (hby : c.code = code) {pc : Nat} {Ls : Array Slot} {St : List Value} {x : Int32} (hd : decode code pc = .ok (.i2b, 1)) (k : own_Ends p e below s G Q kc ks (T.setTop (mkF m (pc + 1) Ls (.int (x.toInt8.toInt32) :: St)))) : own_Ends p e below s G Q kc ks (T.setTop (mkF m pc Ls (.int x :: St))) := own_of (fun _ q => XT.i2b X.here hx rfl (hb hby hd) rfl q) k
theorem own_i2s (X : Stand p l e R sS m args below meth c T locs cells slots) (hx : p.tables.exec = Jvm.exec) {code : ByteArray} (hby : c.code = code) {pc : Nat} {Ls : Array Slot} {St : List Value} {x : Int32} (hd : decode code pc = .ok (.i2s, 1)) (k : own_Ends p e below s G Q kc ks (T.setTop (mkF m (pc + 1) Ls (.int (x.toInt16.toInt32) :: St)))) : own_Ends p e below s G Q kc ks (T.setTop (mkF m pc Ls (.int x :: St))) := own_of (fun _ q => XT.i2s X.here hx rfl (hb hby hd) rfl q) k
theorem own_i2c (X : Stand p l e R sS m args below meth c T locs cells slots) (hx : p.tables.exec = Jvm.exec) {code : ByteArray} (hby : c.code = code) {pc : Nat} {Ls : Array Slot} {St : List Value} {x : Int32} (hd : decode code pc = .ok (.i2c, 1)) (k : own_Ends p e below s G Q kc ks (T.setTop (mkF m (pc + 1) Ls (.int (x.toUInt32.toUInt16.toUInt32.toInt32) :: St)))) : own_Ends p e below s G Q kc ks (T.setTop (mkF m pc Ls (.int x :: St))) := own_of (fun _ q => XT.i2c X.here hx rfl (hb hby hd) rfl q) k
theorem own_lcmp (X : Stand p l e R sS m args below meth c T locs cells slots) (hx : p.tables.exec = Jvm.exec) {code : ByteArray} (hby : c.code = code) {pc : Nat} {Ls : Array Slot} {St : List Value} {x y : Int64} (hd : decode code pc = .ok (.lcmp, 1)) (k : own_Ends p e below s G Q kc ks (T.setTop (mkF m (pc + 1) Ls (.int (XT.cmpL x y) :: St)))) : own_Ends p e below s G Q kc ks (T.setTop (mkF m pc Ls (.long y :: .long x :: St))) := own_of (fun _ q => XT.lcmp X.here hx rfl (hb hby hd) rfl q) k
theorem own_dup (X : Stand p l e R sS m args below meth c T locs cells slots) (hx : p.tables.exec = Jvm.exec) {code : ByteArray} (hby : c.code = code) {pc : Nat} {Ls : Array Slot} {St : List Value} {x : Value} (hd : decode code pc = .ok (.dup, 1)) (hc : x.category = 1) (k : own_Ends p e below s G Q kc ks (T.setTop (mkF m (pc + 1) Ls (x :: x :: St)))) : own_Ends p e below s G Q kc ks (T.setTop (mkF m pc Ls (x :: St))) := own_of (fun _ q => XS.dup X.here hx rfl (hb hby hd) rfl hc q) k
theorem own_dupX1 (X : Stand p l e R sS m args below meth c T locs cells slots) (hx : p.tables.exec = Jvm.exec) {code : ByteArray} (hby : c.code = code) {pc : Nat} {Ls : Array Slot} {St : List Value} {x y : Value} (hd : decode code pc = .ok (.dup_x1, 1)) (hc : x.category = 1) (hc' : y.category = 1) (k : own_Ends p e below s G Q kc ks (T.setTop (mkF m (pc + 1) Ls (x :: y :: x :: St)))) : own_Ends p e below s G Q kc ks (T.setTop (mkF m pc Ls (x :: y :: St))) := own_of (fun _ q => XT.dupX1 X.here hx rfl (hb hby hd) rfl hc hc' q) k
theorem own_dup2 (X : Stand p l e R sS m args below meth c T locs cells slots) (hx : p.tables.exec = Jvm.exec) {code : ByteArray} (hby : c.code = code) {pc : Nat} {Ls : Array Slot} {St : List Value} {x y : Value} (hd : decode code pc = .ok (.dup2, 1)) (hc : x.category = 1) (hc' : y.category = 1) (k : own_Ends p e below s G Q kc ks (T.setTop (mkF m (pc + 1) Ls (x :: y :: x :: y :: St)))) : own_Ends p e below s G Q kc ks (T.setTop (mkF m pc Ls (x :: y :: St))) := own_of (fun _ q => XT.dup2 X.here hx rfl (hb hby hd) rfl hc hc' q) k
theorem own_dup2L (X : Stand p l e R sS m args below meth c T locs cells slots) (hx : p.tables.exec = Jvm.exec) {code : ByteArray} (hby : c.code = code) {pc : Nat} {Ls : Array Slot} {St : List Value} {x : Int64} (hd : decode code pc = .ok (.dup2, 1)) (k : own_Ends p e below s G Q kc ks (T.setTop (mkF m (pc + 1) Ls (.long x :: .long x :: St)))) : own_Ends p e below s G Q kc ks (T.setTop (mkF m pc Ls (.long x :: St))) := own_of (fun _ q => XT.dup2L X.here hx rfl (hb hby hd) rfl q) k
theorem own_pop (X : Stand p l e R sS m args below meth c T locs cells slots) (hx : p.tables.exec = Jvm.exec) {code : ByteArray} (hby : c.code = code) {pc : Nat} {Ls : Array Slot} {St : List Value} {x : Value} (hd : decode code pc = .ok (.pop, 1)) (hc : x.category = 1) (k : own_Ends p e below s G Q kc ks (T.setTop (mkF m (pc + 1) Ls (St)))) : own_Ends p e below s G Q kc ks (T.setTop (mkF m pc Ls (x :: St))) := own_of (fun _ q => XT.pop X.here hx rfl (hb hby hd) rfl hc q) k
theorem own_iinc (X : Stand p l e R sS m args below meth c T locs cells slots) (hx : p.tables.exec = Jvm.exec) {code : ByteArray} (hby : c.code = code) {pc : Nat} {Ls : Array Slot} {St : List Value} {k : Nat} {cst : Int} {x : Int32} {l' : Array Slot} (hd : decode code pc = .ok (.iinc k cst, 3)) (hl : Ls[k]? = some (.val (.int x))) (hl' : storeLocals Ls k (.int (x + Int32.ofInt cst)) = some l') (k : own_Ends p e below s G Q kc ks (T.setTop (mkF m (pc + 3) l' (St)))) : own_Ends p e below s G Q kc ks (T.setTop (mkF m pc Ls (St))) := own_of (fun _ q => XS.iinc X.here hx rfl (hb hby hd) hl hl' q) k
theorem own_iconst (X : Stand p l e R sS m args below meth c T locs cells slots) (hx : p.tables.exec = Jvm.exec) {code : ByteArray} (hby : c.code = code) {pc : Nat} {Ls : Array Slot} {St : List Value} {i : Int} (z : Int32) (hd : decode code pc = .ok (.iconst i, 1)) (hz : Int32.ofInt i = z) (k : own_Ends p e below s G Q kc ks (T.setTop (mkF m (pc + 1) Ls (.int z :: St)))) : own_Ends p e below s G Q kc ks (T.setTop (mkF m pc Ls St)) := by subst hz; exact own_of (fun _ q => XS.iconst X.here hx rfl (hb hby hd) q) k
theorem own_bipush (X : Stand p l e R sS m args below meth c T locs cells slots) (hx : p.tables.exec = Jvm.exec) {code : ByteArray} (hby : c.code = code) {pc : Nat} {Ls : Array Slot} {St : List Value} {i : Int} (z : Int32) (hd : decode code pc = .ok (.bipush i, 2)) (hz : (Int8.ofInt i).toInt32 = z) (k : own_Ends p e below s G Q kc ks (T.setTop (mkF m (pc + 2) Ls (.int z :: St)))) : own_Ends p e below s G Q kc ks (T.setTop (mkF m pc Ls St)) := by subst hz; exact own_of (fun _ q => XS.bipush X.here hx rfl (hb hby hd) q) k
theorem own_sipush (X : Stand p l e R sS m args below meth c T locs cells slots) (hx : p.tables.exec = Jvm.exec) {code : ByteArray} (hby : c.code = code) {pc : Nat} {Ls : Array Slot} {St : List Value} {i : Int} (z : Int32) (hd : decode code pc = .ok (.sipush i, 3)) (hz : (Int16.ofInt i).toInt32 = z) (k : own_Ends p e below s G Q kc ks (T.setTop (mkF m (pc + 3) Ls (.int z :: St)))) : own_Ends p e below s G Q kc ks (T.setTop (mkF m pc Ls St)) := by subst hz; exact own_of (fun _ q => XS.sipush X.here hx rfl (hb hby hd) q) k
theorem own_lconst (X : Stand p l e R sS m args below meth c T locs cells slots) (hx : p.tables.exec = Jvm.exec) {code : ByteArray} (hby : c.code = code) {pc : Nat} {Ls : Array Slot} {St : List Value} {i : Fin 2} (z : Int64) (hd : decode code pc = .ok (.lconst i, 1)) (hz : Int64.ofNat i = z) (k : own_Ends p e below s G Q kc ks (T.setTop (mkF m (pc + 1) Ls (.long z :: St)))) : own_Ends p e below s G Q kc ks (T.setTop (mkF m pc Ls St)) := by subst hz; exact own_of (fun _ q => XT.lconst X.here hx rfl (hb hby hd) q) k
theorem own_goto (X : Stand p l e R sS m args below meth c T locs cells slots) (hx : p.tables.exec = Jvm.exec) {code : ByteArray} (hby : c.code = code) {Ls : Array Slot} {St : List Value} (pc pc' : Nat) {o : Int}  (hd : decode code pc = .ok (.goto o, 3)) (ho : 0 ≤ (pc : Int) + o) (hp : ((pc : Int) + o).toNat = pc') (k : own_Ends p e below s G Q kc ks (T.setTop (mkF m pc' Ls St))) : own_Ends p e below s G Q kc ks (T.setTop (mkF m pc Ls (St))) := own_of (fun _ q => XS.goto X.here hx rfl (pc0 := pc) (pc' := pc') rfl (hb hby hd) ho hp q) k
theorem own_ifYes (X : Stand p l e R sS m args below meth c T locs cells slots) (hx : p.tables.exec = Jvm.exec) {code : ByteArray} (hby : c.code = code) {Ls : Array Slot} {St : List Value} (pc pc' : Nat) {o : Int} {cd : ClassFile.Cond} {x : Int32} (hd : decode code pc = .ok (.ifCond cd o, 3)) (hc : ifCond.holds cd x = true) (ho : 0 ≤ (pc : Int) + o) (hp : ((pc : Int) + o).toNat = pc') (k : own_Ends p e below s G Q kc ks (T.setTop (mkF m pc' Ls St))) : own_Ends p e below s G Q kc ks (T.setTop (mkF m pc Ls (.int x :: St))) := own_of (fun _ q => XS.ifYes X.here hx rfl (pc0 := pc) (pc' := pc') rfl (hb hby hd) rfl hc ho hp q) k
theorem own_icmpYes (X : Stand p l e R sS m args below meth c T locs cells slots) (hx : p.tables.exec = Jvm.exec) {code : ByteArray} (hby : c.code = code) {Ls : Array Slot} {St : List Value} (pc pc' : Nat) {o : Int} {cd : ClassFile.Cond} {x y : Int32} (hd : decode code pc = .ok (.if_icmp cd o, 3)) (hc : if_icmp.holds cd x y = true) (ho : 0 ≤ (pc : Int) + o) (hp : ((pc : Int) + o).toNat = pc') (k : own_Ends p e below s G Q kc ks (T.setTop (mkF m pc' Ls St))) : own_Ends p e below s G Q kc ks (T.setTop (mkF m pc Ls (.int y :: .int x :: St))) := own_of (fun _ q => XS.icmpYes X.here hx rfl (pc0 := pc) (pc' := pc') rfl (hb hby hd) rfl hc ho hp q) k
theorem own_ifnullYes (X : Stand p l e R sS m args below meth c T locs cells slots) (hx : p.tables.exec = Jvm.exec) {code : ByteArray} (hby : c.code = code) {Ls : Array Slot} {St : List Value} (pc pc' : Nat) {o : Int}  (hd : decode code pc = .ok (.ifnull o, 3)) (ho : 0 ≤ (pc : Int) + o) (hp : ((pc : Int) + o).toNat = pc') (k : own_Ends p e below s G Q kc ks (T.setTop (mkF m pc' Ls St))) : own_Ends p e below s G Q kc ks (T.setTop (mkF m pc Ls (.null :: St))) := own_of (fun _ q => XS.ifnullYes X.here hx rfl (pc0 := pc) (pc' := pc') rfl (hb hby hd) rfl ho hp q) k
theorem own_ifnonnullYes (X : Stand p l e R sS m args below meth c T locs cells slots) (hx : p.tables.exec = Jvm.exec) {code : ByteArray} (hby : c.code = code) {Ls : Array Slot} {St : List Value} (pc pc' : Nat) {o : Int} {b : Addr} (hd : decode code pc = .ok (.ifnonnull o, 3)) (ho : 0 ≤ (pc : Int) + o) (hp : ((pc : Int) + o).toNat = pc') (k : own_Ends p e below s G Q kc ks (T.setTop (mkF m pc' Ls St))) : own_Ends p e below s G Q kc ks (T.setTop (mkF m pc Ls (.ref b :: St))) := own_of (fun _ q => XT.ifnonnullYes X.here hx rfl (pc0 := pc) (pc' := pc') rfl (hb hby hd) rfl ho hp q) k
theorem own_ifNo (X : Stand p l e R sS m args below meth c T locs cells slots) (hx : p.tables.exec = Jvm.exec) {code : ByteArray} (hby : c.code = code) {pc : Nat} {Ls : Array Slot} {St : List Value} {cd : ClassFile.Cond} {o : Int} {x : Int32} (hd : decode code pc = .ok (.ifCond cd o, 3)) (hc : ifCond.holds cd x = false) (k : own_Ends p e below s G Q kc ks (T.setTop (mkF m (pc + 3) Ls (St)))) : own_Ends p e below s G Q kc ks (T.setTop (mkF m pc Ls (.int x :: St))) := own_of (fun _ q => XS.ifNo X.here hx rfl (hb hby hd) rfl hc q) k
theorem own_icmpNo (X : Stand p l e R sS m args below meth c T locs cells slots) (hx : p.tables.exec = Jvm.exec) {code : ByteArray} (hby : c.code = code) {pc : Nat} {Ls : Array Slot} {St : List Value} {cd : ClassFile.Cond} {o : Int} {x y : Int32} (hd : decode code pc = .ok (.if_icmp cd o, 3)) (hc : if_icmp.holds cd x y = false) (k : own_Ends p e below s G Q kc ks (T.setTop (mkF m (pc + 3) Ls (St)))) : own_Ends p e below s G Q kc ks (T.setTop (mkF m pc Ls (.int y :: .int x :: St))) := own_of (fun _ q => XS.icmpNo X.here hx rfl (hb hby hd) rfl hc q) k
theorem own_ifnullNo (X : Stand p l e R sS m args below meth c T locs cells slots) (hx : p.tables.exec = Jvm.exec) {code : ByteArray} (hby : c.code = code) {pc : Nat} {Ls : Array Slot} {St : List Value} {o : Int} {b : Addr} (hd : decode code pc = .ok (.ifnull o, 3)) (k : own_Ends p e below s G Q kc ks (T.setTop (mkF m (pc + 3) Ls (St)))) : own_Ends p e below s G Q kc ks (T.setTop (mkF m pc Ls (.ref b :: St))) := own_of (fun _ q => XS.ifnullNo X.here hx rfl (hb hby hd) rfl q) k
theorem own_ifnonnullNo (X : Stand p l e R sS m args below meth c T locs cells slots) (hx : p.tables.exec = Jvm.exec) {code : ByteArray} (hby : c.code = code) {pc : Nat} {Ls : Array Slot} {St : List Value} {o : Int} (hd : decode code pc = .ok (.ifnonnull o, 3)) (k : own_Ends p e below s G Q kc ks (T.setTop (mkF m (pc + 3) Ls (St)))) : own_Ends p e below s G Q kc ks (T.setTop (mkF m pc Ls (.null :: St))) := own_of (fun _ q => XT.ifnonnullNo X.here hx rfl (hb hby hd) rfl q) k
end Own2
theorem own_w {Z : State} {a0 : Array Value} (hw : ∀ d ∈ tables_1, d.before a0 Z = true) (i : Nat) {d : Jvm.Cond} (h : tables_1[i]? = some d) : d.before a0 Z = true := hw _ (List.mem_of_getElem? h)
theorem own_eqk {args : Array Value} {s : State} {t : Term} {k : Int32} (h : (Cond.eq t (.int k)).value args s none s [] = some true) : t.eval args s none [] s = some (.int k) := by
  obtain ⟨x, y, ex, ey, k1, k2⟩ := cmp_v (Or.inl h)
  obtain rfl : y = .int k := (Option.some.inj ((Term.int_eval k).symm.trans ey)).symm
  obtain ⟨z, rfl⟩ := k2
  rw [ex, gotT (Cond.eq_ints ex ey) h]
theorem own_staKeep {Z : State} {h h' : Heap} {C n d : String} {v : Value} {ws : List Addr} (F : Sta Z h C n d v) (K : Keep h h' ws) (q : ∀ x ∈ ws, ∀ c : Cell, h[x]? = some c → c.vm.isStatics = false) : Sta Z h' C n d v := by
  obtain ⟨cf, i, k, f, st, cell, h1, h2, h3, h4, h5, h6, h7⟩ := F
  refine ⟨cf, i, k, f, st, cell, h1, h2, h3, h4, K.2.1 st cell h5 (fun z => ?_), h6, h7⟩
  have := q st z cell h5
  rw [h6] at this; cases this
theorem own_strAtoms {Z : State} {a0 : Array Value} (hw : ∀ d ∈ tables_1, d.before a0 Z = true) : ∀ d ∈ Bundle.stringAtoms, d.before a0 Z = true := by
  intro d hd
  simp only [Bundle.stringAtoms, List.mem_cons, List.not_mem_nil, or_false] at hd
  rcases hd with rfl | rfl | rfl | rfl | rfl | rfl | rfl
  · exact hw _ (List.mem_of_getElem? (i := 1) rfl)
  · exact hw _ (List.mem_of_getElem? (i := 2) rfl)
  · exact hw _ (List.mem_of_getElem? (i := 3) rfl)
  · exact hw _ (List.mem_of_getElem? (i := 4) rfl)
  · exact hw _ (List.mem_of_getElem? (i := 5) rfl)
  · exact hw _ (List.mem_of_getElem? (i := 6) rfl)
  · exact hw _ (List.mem_of_getElem? (i := 7) rfl)
theorem own_nar2 (x : Int32) : nar .char (nar .char x) = nar .char x := by
  show (x.toUInt32.toUInt16.toUInt32.toInt32).toUInt32.toUInt16.toUInt32.toInt32 = x.toUInt32.toUInt16.toUInt32.toInt32
  have : (x.toUInt32.toUInt16.toUInt32.toInt32).toUInt32 = x.toUInt32.toUInt16.toUInt32 := rfl
  rw [this, UInt16.toUInt16_toUInt32]
def Qv (x : Int32) (h0 : Heap) (n0 : Nat) (v : Option Value) (h : Heap) (L : List Loc) : Prop := v = some (.int x) ∧ Fr n0 L ∧ h = h0
def Qn (h0 : Heap) (n0 : Nat) (v : Option Value) (h : Heap) (L : List Loc) : Prop := v = none ∧ Fr n0 L ∧ h = h0
def own_at (cs : List Int32) (j : Int32) : Int32 := cs.getD j.toNatClampNeg 0
theorem own_at_eq (cs : List Int32) (j : Int32) : (cs.map Value.int).getD j.toNatClampNeg (.int 0) = .int (own_at cs j) := by
  unfold own_at
  simp only [List.getD_eq_getElem?_getD, List.getElem?_map]
  cases cs[j.toNatClampNeg]? <;> rfl
/-- the sign at a place of a String of one-byte signs -/
def own_ch (cs : List Int32) (j : Int32) : Int32 := nar .char (((own_at cs j) &&& 255).toUInt32.toUInt16.toUInt32.toInt32)
def own_lo : List Int32 := [48, 49, 50, 51, 52, 53, 54, 55, 56, 57, 97, 98, 99, 100, 101, 102]
def own_up : List Int32 := [48, 49, 50, 51, 52, 53, 54, 55, 56, 57, 65, 66, 67, 68, 69, 70]
def own_hex (c : Int32) : Int32 := if c < 48 then (if c < 97 then (if c < 65 then -1 else if 70 < c then -1 else c - 65 + 10) else if 102 < c then (if c < 65 then -1 else if 70 < c then -1 else c - 65 + 10) else c - 97 + 10) else if 57 < c then (if c < 97 then (if c < 65 then -1 else if 70 < c then -1 else c - 65 + 10) else if 102 < c then (if c < 65 then -1 else if 70 < c then -1 else c - 65 + 10) else c - 97 + 10) else c - 48
theorem own_16 (d : Int32) (h1 : 0 ≤ d.toInt) (h2 : d.toInt < 16) : ∃ f : Fin 16, d = Int32.ofNat f.val := by
  refine ⟨⟨d.toInt.toNat, by omega⟩, ?_⟩
  apply Int32.toInt_inj.mp
  show d.toInt = (Int32.ofNat d.toInt.toNat).toInt
  rw [Int32.toInt_ofNat_small (by omega)]
  omega
theorem own_hlo : ∀ f : Fin 16, own_hex (own_ch own_lo (Int32.ofNat f.val)) = Int32.ofNat f.val := by decide +kernel
theorem own_hup : ∀ f : Fin 16, own_hex (own_ch own_up (Int32.ofNat f.val)) = Int32.ofNat f.val := by decide +kernel
theorem own_d (v : Int32) : 0 ≤ (v &&& 15).toInt ∧ (v &&& 15).toInt < 16 := by
  have := Jvm.Kit.i32_mask v 15 (k := 4) (by decide) (by decide)
  omega
theorem own_ge {d : Int32} (h : 0 ≤ d.toInt) : ¬ (d < (0 : Int32)) := by rw [Int32.lt_iff_toInt_lt, show (0 : Int32).toInt = 0 by decide]; omega
theorem own_lt16 {d : Int32} (h : d.toInt < 16) : d < (16 : Int32) := by rw [Int32.lt_iff_toInt_lt, show (16 : Int32).toInt = 16 by decide]; omega
/-- what hex answers: -1, or the place of the sign in one of the two rows -/
theorem own_hex_all (c : Int32) : own_hex c = -1 ∨ (0 ≤ (own_hex c).toInt ∧ (own_hex c).toInt ≤ 15 ∧ (c = own_ch own_lo (own_hex c) ∨ c = own_ch own_up (own_hex c))) := by
  have key : ∀ f : Fin 128, own_hex (Int32.ofNat f.val) = -1 ∨ (0 ≤ (own_hex (Int32.ofNat f.val)).toInt ∧ (own_hex (Int32.ofNat f.val)).toInt ≤ 15 ∧ (Int32.ofNat f.val = own_ch own_lo (own_hex (Int32.ofNat f.val)) ∨ Int32.ofNat f.val = own_ch own_up (own_hex (Int32.ofNat f.val)))) := by decide +kernel
  by_cases h : 0 ≤ c.toInt ∧ c.toInt < 128
  · have q : c = Int32.ofNat c.toInt.toNat := by
      apply Int32.toInt_inj.mp
      rw [Int32.toInt_ofNat_small (by omega)]
      omega
    have := key ⟨c.toInt.toNat, by omega⟩
    dsimp only at this
    rw [← q] at this
    exact this
  · left
    have c1 : (48 : Int32).toInt = 48 := by decide
    have c2 : (57 : Int32).toInt = 57 := by decide
    have c3 : (97 : Int32).toInt = 97 := by decide
    have c4 : (102 : Int32).toInt = 102 := by decide
    have c5 : (65 : Int32).toInt = 65 := by decide
    have c6 : (70 : Int32).toInt = 70 := by decide
    unfold own_hex
    simp only [Int32.lt_iff_toInt_lt, c1, c2, c3, c4, c5, c6]
    by_cases n : c.toInt < 0
    · rw [if_pos (by omega), if_pos (by omega), if_pos (by omega)]
    · rw [if_neg (by omega), if_pos (by omega), if_neg (by omega), if_pos (by omega), if_neg (by omega), if_pos (by omega)]
abbrev mN_0 : MethodName := ⟨"jdk/internal/util/Preconditions", "checkIndex", "(IILjava/util/function/BiFunction;)I"⟩
theorem d5_0 : decode jdk_41_method_11_code 0 = .ok (.iload_n 0, 1) := by decide +kernel
theorem d5_1 : decode jdk_41_method_11_code 1 = .ok (.ifCond .lt 8, 3) := by decide +kernel
theorem d5_4 : decode jdk_41_method_11_code 4 = .ok (.iload_n 0, 1) := by decide +kernel
theorem d5_5 : decode jdk_41_method_11_code 5 = .ok (.iload_n 1, 1) := by decide +kernel
theorem d5_6 : decode jdk_41_method_11_code 6 = .ok (.if_icmp .lt 10, 3) := by decide +kernel
theorem d5_16 : decode jdk_41_method_11_code 16 = .ok (.iload_n 0, 1) := by decide +kernel
theorem d5_17 : decode jdk_41_method_11_code 17 = .ok (.ireturn, 1) := by decide +kernel
theorem pn_0 : plainName "jdk/internal/util/Preconditions" = true := by first | (simp [plainName, overriddenIn]; done) | decide +kernel
theorem ef_pin (m : MethodId) (x0 : Int32) (x1 : Int32) : entryFrame m #[(.int x0), (.int x1), .null] 3 = mkF m 0 #[.val (.int x0), .val (.int x1), .val .null] [] := by first | (simp [entryFrame, mkF, argsToLocals, Value.category]; done) | rfl
set_option maxRecDepth 65536 in
set_option maxHeartbeats 40000000 in
theorem rmpin (l : Launch) (Z : State) (a0 : Array Value) (hw : ∀ d ∈ tables_1, d.before a0 Z = true) (ws : List Jvm.Cond) (p1 p2 : Int32) (h0 : Heap) (n0 : Nat) (Z0 : n0 ≤ h0.size) (h1 : ¬ (p1 < (0 : Int32))) (h2 : p1 < p2) :
    MetFree l mN_0 (head1 (Jvm.Cond.code mN_0 jdk_41_method_11_code 3 (some .int) :: ws) ({ frames := 0, cells := 0, slots := 0, locals := 0 } : Room)) (fun a U => a = #[(.int p1), (.int p2), .null] ∧ Z.Warmed39 U.vm ∧ U.heap = h0) (fun _ _ _ _ _ => True) (fun _ U o U' => ∃ v L, o = .returned v ∧ (Qv p1 h0 n0) v U'.heap L ∧ FrameEnd U o U' L ({ frames := 0, cells := 0, slots := 0, locals := 0 } : Room).cells ({ frames := 0, cells := 0, slots := 0, locals := 0 } : Room).slots) := by
  refine MetFree.of_bodySF (plainFor_of_name pn_0) hisR ?_
  intro p e s m args below meth c s₁ Bd hml0 hP hK
  obtain ⟨rfl, hZ, hh⟩ := hP
  have hx := Bd.exec
  have hby := Bd.bytes
  have hml : c.maxLocals = 3 := hml0
  have hown : s.vm.findClass "jdk/internal/util/Preconditions" = some m.cls := findClass_of_methodNamed Bd.named
  have hnm := (name_of_methodNamed Bd.named Bd.method).1
  have hlk := Bd.notSynchronized
  have X0 : Stand p l e ({ frames := 0, cells := 0, slots := 0, locals := 0 } : Room) s m #[(.int p1), (.int p2), .null] below meth c s₁ [] 0 0 := Stand.of_body Bd
  have e0 : s₁.heap = h0 := by rw [← hh, Bd.state]; rfl
  have N0 := Fr.nil n0
  show own_Ends p e below s FrameEnd (Qv p1 h0 n0) 0 0 (s₁.setTop (entryFrame m #[(.int p1), (.int p2), .null] 3))
  refine own_of (U' := (s₁.setTop (mkF m 0 #[.val (.int p1), .val (.int p2), .val .null] []))) (fun _ k => castTop (ef_pin m p1 p2) k) ?_
  refine own_iloadN X0 hx hby d5_0 rfl ?_
  have hc1_1 : ¬ (p1 < (0 : Int32)) := h1
  refine own_ifNo X0 hx hby d5_1 ((if0 _ _).trans (flt hc1_1).1) ?_
  refine own_iloadN X0 hx hby d5_4 rfl ?_
  refine own_iloadN X0 hx hby d5_5 rfl ?_
  have hc6_2 : p1 < p2 := h2
  refine own_icmpYes X0 hx hby 6 16 d5_6 (tlt hc6_2).1 (by decide) (by decide) ?_
  refine own_iloadN X0 hx hby d5_16 rfl ?_
  exact own_retI X0 hx hlk Bd.returns (hb hby d5_17) (by decide) (by decide) (⟨rfl, N0, e0⟩)
theorem ef_pir (m : MethodId) (x0 : Int32) (x1 : Int32) (x2 : Addr) : entryFrame m #[(.int x0), (.int x1), (.ref x2)] 3 = mkF m 0 #[.val (.int x0), .val (.int x1), .val (.ref x2)] [] := by first | (simp [entryFrame, mkF, argsToLocals, Value.category]; done) | rfl
set_option maxRecDepth 65536 in
set_option maxHeartbeats 40000000 in
theorem rmpir (l : Launch) (Z : State) (a0 : Array Value) (hw : ∀ d ∈ tables_1, d.before a0 Z = true) (ws : List Jvm.Cond) (p1 p2 : Int32) (kF : Addr) (h0 : Heap) (n0 : Nat) (Z0 : n0 ≤ h0.size) (h1 : ¬ (p1 < (0 : Int32))) (h2 : p1 < p2) :
    MetFree l mN_0 (head1 (Jvm.Cond.code mN_0 jdk_41_method_11_code 3 (some .int) :: ws) ({ frames := 0, cells := 0, slots := 0, locals := 0 } : Room)) (fun a U => a = #[(.int p1), (.int p2), (.ref kF)] ∧ Z.Warmed39 U.vm ∧ U.heap = h0) (fun _ _ _ _ _ => True) (fun _ U o U' => ∃ v L, o = .returned v ∧ (Qv p1 h0 n0) v U'.heap L ∧ FrameEnd U o U' L ({ frames := 0, cells := 0, slots := 0, locals := 0 } : Room).cells ({ frames := 0, cells := 0, slots := 0, locals := 0 } : Room).slots) := by
  refine MetFree.of_bodySF (plainFor_of_name pn_0) hisR ?_
  intro p e s m args below meth c s₁ Bd hml0 hP hK
  obtain ⟨rfl, hZ, hh⟩ := hP
  have hx := Bd.exec
  have hby := Bd.bytes
  have hml : c.maxLocals = 3 := hml0
  have hown : s.vm.findClass "jdk/internal/util/Preconditions" = some m.cls := findClass_of_methodNamed Bd.named
  have hnm := (name_of_methodNamed Bd.named Bd.method).1
  have hlk := Bd.notSynchronized
  have X0 : Stand p l e ({ frames := 0, cells := 0, slots := 0, locals := 0 } : Room) s m #[(.int p1), (.int p2), (.ref kF)] below meth c s₁ [] 0 0 := Stand.of_body Bd
  have e0 : s₁.heap = h0 := by rw [← hh, Bd.state]; rfl
  have N0 := Fr.nil n0
  show own_Ends p e below s FrameEnd (Qv p1 h0 n0) 0 0 (s₁.setTop (entryFrame m #[(.int p1), (.int p2), (.ref kF)] 3))
  refine own_of (U' := (s₁.setTop (mkF m 0 #[.val (.int p1), .val (.int p2), .val (.ref kF)] []))) (fun _ k => castTop (ef_pir m p1 p2 kF) k) ?_
  refine own_iloadN X0 hx hby d5_0 rfl ?_
  have hc1_3 : ¬ (p1 < (0 : Int32)) := h1
  refine own_ifNo X0 hx hby d5_1 ((if0 _ _).trans (flt hc1_3).1) ?_
  refine own_iloadN X0 hx hby d5_4 rfl ?_
  refine own_iloadN X0 hx hby d5_5 rfl ?_
  have hc6_4 : p1 < p2 := h2
  refine own_icmpYes X0 hx hby 6 16 d5_6 (tlt hc6_4).1 (by decide) (by decide) ?_
  refine own_iloadN X0 hx hby d5_16 rfl ?_
  exact own_retI X0 hx hlk Bd.returns (hb hby d5_17) (by decide) (by decide) (⟨rfl, N0, e0⟩)
abbrev mN_1 : MethodName := ⟨"java/lang/String", "checkIndex", "(II)V"⟩
theorem pd_0 : parseMethodDescriptor "(IILjava/util/function/BiFunction;)I" = some ⟨[.int, .int, (.object "java/util/function/BiFunction")], some .int⟩ := by decide +kernel
theorem d4_0 : decode jdk_42_method_155_code 0 = .ok (.iload_n 0, 1) := by decide +kernel
theorem d4_1 : decode jdk_42_method_155_code 1 = .ok (.iload_n 1, 1) := by decide +kernel
theorem d4_2 : decode jdk_42_method_155_code 2 = .ok (.getstatic 1053, 3) := by decide +kernel
theorem d4_5 : decode jdk_42_method_155_code 5 = .ok (.invokestatic 1059, 3) := by decide +kernel
theorem d4_8 : decode jdk_42_method_155_code 8 = .ok (.pop, 1) := by decide +kernel
theorem d4_9 : decode jdk_42_method_155_code 9 = .ok (.return_, 1) := by decide +kernel
theorem pn_1 : plainName "java/lang/String" = true := by first | (simp [plainName, overriddenIn]; done) | decide +kernel
theorem ef_ci (m : MethodId) (x0 : Int32) (x1 : Int32) : entryFrame m #[(.int x0), (.int x1)] 2 = mkF m 0 #[.val (.int x0), .val (.int x1)] [] := by first | (simp [entryFrame, mkF, argsToLocals, Value.category]; done) | rfl
set_option maxRecDepth 65536 in
set_option maxHeartbeats 40000000 in
theorem rmci (l : Launch) (Z : State) (a0 : Array Value) (hw : ∀ d ∈ tables_1, d.before a0 Z = true) (ws : List Jvm.Cond) (p1 p2 : Int32) (rS : Value) (h0 : Heap) (n0 : Nat) (Z0 : n0 ≤ h0.size) (h1 : ¬ (p1 < (0 : Int32))) (h2 : p1 < p2) (SF : Sta Z h0 "jdk/internal/util/Preconditions" "SIOOBE_FORMATTER" "Ljava/util/function/BiFunction;" rS) (hrS : rS.isRef = true) :
    MetFree l mN_1 (head1 (Jvm.Cond.code mN_1 jdk_42_method_155_code 2 none :: ws) ({ frames := 1, cells := 0, slots := 0, locals := 14 } : Room)) (fun a U => a = #[(.int p1), (.int p2)] ∧ Z.Warmed39 U.vm ∧ U.heap = h0) (fun _ _ _ _ _ => True) (fun _ U o U' => ∃ v L, o = .returned v ∧ (Qn h0 n0) v U'.heap L ∧ FrameEnd U o U' L ({ frames := 1, cells := 0, slots := 0, locals := 14 } : Room).cells ({ frames := 1, cells := 0, slots := 0, locals := 14 } : Room).slots) := by
  refine MetFree.of_bodySF (plainFor_of_name pn_1) hisR ?_
  intro p e s m args below meth c s₁ Bd hml0 hP hK
  obtain ⟨rfl, hZ, hh⟩ := hP
  have hx := Bd.exec
  have hby := Bd.bytes
  have hml : c.maxLocals = 2 := hml0
  have hown : s.vm.findClass "java/lang/String" = some m.cls := findClass_of_methodNamed Bd.named
  have hnm := (name_of_methodNamed Bd.named Bd.method).1
  have hlk := Bd.notSynchronized
  have X0 : Stand p l e ({ frames := 1, cells := 0, slots := 0, locals := 14 } : Room) s m #[(.int p1), (.int p2)] below meth c s₁ [] 0 0 := Stand.of_body Bd
  have e0 : s₁.heap = h0 := by rw [← hh, Bd.state]; rfl
  have N0 := Fr.nil n0
  show own_Ends p e below s FrameEnd (Qn h0 n0) 0 0 (s₁.setTop (entryFrame m #[(.int p1), (.int p2)] 2))
  refine own_of (U' := (s₁.setTop (mkF m 0 #[.val (.int p1), .val (.int p2)] []))) (fun _ k => castTop (ef_ci m p1 p2) k) ?_
  refine own_iloadN X0 hx hby d4_0 rfl ?_
  refine own_iloadN X0 hx hby d4_1 rfl ?_
  rcases ref_cases hrS with rfl | ⟨kF, rfl⟩
  · skip
    obtain ⟨T5, X5, e5, st5⟩ := getS2 X0 hx hZ hown (host := "") (Or.inl (own_w hw 28 rfl)) Via.refl e0 SF (g := (mkF m 2 #[.val (.int p1), .val (.int p2)] [(.int p2), (.int p1)])) rfl (hb hby d4_2)
    refine own_of (U' := (T5.setTop (mkF m 5 #[.val (.int p1), .val (.int p2)] [.null, (.int p2), (.int p1)]))) (st5) ?_
    obtain ⟨_, _, ⟨T6, L6, k6, n6⟩, -, X6, ⟨Lc6, hQ6, l6, y6, z6⟩, st6⟩ := Jvm.LawKit.callS X5 hx (y := mN_0) hown (mvT hZ (own_w hw 30 rfl)) (mvT hZ (own_w hw 31 rfl)) (mvT hZ (own_w hw 29 rfl)) (mvT hZ (own_w hw 32 rfl)) (by decide) (backOf (W := 0) (rmpin l Z a0 hw [] p1 p2 h0 n0 Z0 h1 h2) hZ (own_w hw 32 rfl) (own_w hw 29 rfl) (by decide) (by decide)) (g := (mkF m 5 #[.val (.int p1), .val (.int p2)] [.null, (.int p2), (.int p1)])) rfl (by rw [hml]; rfl) (argsL := [(.int p1), (.int p2), .null]) (rest := []) (lenOf pd_0 rfl) rfl (by show 2 * 0 + _ ≤ _; exact Nat.le_of_eq rfl) (hb hby d4_5) (fun _ _ => ⟨rfl, e5, (by decide : 0 + 0 ≤ _), (by decide : 0 + 0 ≤ _)⟩)
    dsimp only [Pt.U, Pt.locs, Pt.cells, Pt.slots] at X6 l6 y6 z6 st6 hQ6
    subst l6 y6 z6
    obtain ⟨rfl, Nq6, e6⟩ := hQ6
    have N6 := Fr.app N0 Nq6
    refine own_of (U' := (T6.setTop (mkF m 8 #[.val (.int p1), .val (.int p2)] [(.int p1)]))) (st6) ?_
    refine own_pop X6 hx hby d4_8 rfl ?_
    exact own_ret0 X6 hx hlk Bd.returns (hb hby d4_9) (by decide) (by decide) (⟨rfl, N6, e6⟩)
  · skip
    obtain ⟨T7, X7, e7, st7⟩ := getS2 X0 hx hZ hown (host := "") (Or.inl (own_w hw 28 rfl)) Via.refl e0 SF (g := (mkF m 2 #[.val (.int p1), .val (.int p2)] [(.int p2), (.int p1)])) rfl (hb hby d4_2)
    refine own_of (U' := (T7.setTop (mkF m 5 #[.val (.int p1), .val (.int p2)] [(.ref kF), (.int p2), (.int p1)]))) (st7) ?_
    obtain ⟨_, _, ⟨T8, L8, k8, n8⟩, -, X8, ⟨Lc8, hQ8, l8, y8, z8⟩, st8⟩ := Jvm.LawKit.callS X7 hx (y := mN_0) hown (mvT hZ (own_w hw 30 rfl)) (mvT hZ (own_w hw 31 rfl)) (mvT hZ (own_w hw 29 rfl)) (mvT hZ (own_w hw 32 rfl)) (by decide) (backOf (W := 0) (rmpir l Z a0 hw [] p1 p2 kF h0 n0 Z0 h1 h2) hZ (own_w hw 32 rfl) (own_w hw 29 rfl) (by decide) (by decide)) (g := (mkF m 5 #[.val (.int p1), .val (.int p2)] [(.ref kF), (.int p2), (.int p1)])) rfl (by rw [hml]; rfl) (argsL := [(.int p1), (.int p2), (.ref kF)]) (rest := []) (lenOf pd_0 rfl) rfl (by show 2 * 0 + _ ≤ _; exact Nat.le_of_eq rfl) (hb hby d4_5) (fun _ _ => ⟨rfl, e7, (by decide : 0 + 0 ≤ _), (by decide : 0 + 0 ≤ _)⟩)
    dsimp only [Pt.U, Pt.locs, Pt.cells, Pt.slots] at X8 l8 y8 z8 st8 hQ8
    subst l8 y8 z8
    obtain ⟨rfl, Nq8, e8⟩ := hQ8
    have N8 := Fr.app N0 Nq8
    refine own_of (U' := (T8.setTop (mkF m 8 #[.val (.int p1), .val (.int p2)] [(.int p1)]))) (st8) ?_
    refine own_pop X8 hx hby d4_8 rfl ?_
    exact own_ret0 X8 hx hlk Bd.returns (hb hby d4_9) (by decide) (by decide) (⟨rfl, N8, e8⟩)
abbrev mN_2 : MethodName := ⟨"java/lang/StringLatin1", "charAt", "([BI)C"⟩
theorem pd_1 : parseMethodDescriptor "(II)V" = some ⟨[.int, .int], none⟩ := by decide +kernel
theorem d3_0 : decode jdk_43_method_2_code 0 = .ok (.iload_n 1, 1) := by decide +kernel
theorem d3_1 : decode jdk_43_method_2_code 1 = .ok (.aload_n 0, 1) := by decide +kernel
theorem d3_2 : decode jdk_43_method_2_code 2 = .ok (.arraylength, 1) := by decide +kernel
theorem d3_3 : decode jdk_43_method_2_code 3 = .ok (.invokestatic 9, 3) := by decide +kernel
theorem d3_6 : decode jdk_43_method_2_code 6 = .ok (.aload_n 0, 1) := by decide +kernel
theorem d3_7 : decode jdk_43_method_2_code 7 = .ok (.iload_n 1, 1) := by decide +kernel
theorem d3_8 : decode jdk_43_method_2_code 8 = .ok (.baload, 1) := by decide +kernel
theorem d3_9 : decode jdk_43_method_2_code 9 = .ok (.sipush 255, 3) := by decide +kernel
theorem d3_12 : decode jdk_43_method_2_code 12 = .ok (.iand, 1) := by decide +kernel
theorem d3_13 : decode jdk_43_method_2_code 13 = .ok (.i2c, 1) := by decide +kernel
theorem d3_14 : decode jdk_43_method_2_code 14 = .ok (.ireturn, 1) := by decide +kernel
theorem pn_2 : plainName "java/lang/StringLatin1" = true := by first | (simp [plainName, overriddenIn]; done) | decide +kernel
theorem ef_lc (m : MethodId) (x0 : Addr) (x1 : Int32) : entryFrame m #[(.ref x0), (.int x1)] 2 = mkF m 0 #[.val (.ref x0), .val (.int x1)] [] := by first | (simp [entryFrame, mkF, argsToLocals, Value.category]; done) | rfl
set_option maxRecDepth 65536 in
set_option maxHeartbeats 40000000 in
theorem rmlc (l : Launch) (Z : State) (a0 : Array Value) (hw : ∀ d ∈ tables_1, d.before a0 Z = true) (ws : List Jvm.Cond) (b : Addr) (p2 : Int32) (kb : ClassId) (z : Int32) (cs : List Int32) (rS : Value) (h0 : Heap) (n0 : Nat) (Z0 : n0 ≤ h0.size) (Vb : Arv Z h0 b kb .byte z (cs.map Value.int) (.int (0 : Int32))) (h1 : ¬ (p2 < (0 : Int32))) (h2 : p2 < z) (SF : Sta Z h0 "jdk/internal/util/Preconditions" "SIOOBE_FORMATTER" "Ljava/util/function/BiFunction;" rS) (hrS : rS.isRef = true) :
    MetFree l mN_2 (head1 (Jvm.Cond.code mN_2 jdk_43_method_2_code 2 (some .char) :: ws) ({ frames := 2, cells := 0, slots := 0, locals := 27 } : Room)) (fun a U => a = #[(.ref b), (.int p2)] ∧ Z.Warmed39 U.vm ∧ U.heap = h0) (fun _ _ _ _ _ => True) (fun _ U o U' => ∃ v L, o = .returned v ∧ (Qv (own_ch cs p2) h0 n0) v U'.heap L ∧ FrameEnd U o U' L ({ frames := 2, cells := 0, slots := 0, locals := 27 } : Room).cells ({ frames := 2, cells := 0, slots := 0, locals := 27 } : Room).slots) := by
  refine MetFree.of_bodySF (plainFor_of_name pn_2) hisR ?_
  intro p e s m args below meth c s₁ Bd hml0 hP hK
  obtain ⟨rfl, hZ, hh⟩ := hP
  have hx := Bd.exec
  have hby := Bd.bytes
  have hml : c.maxLocals = 2 := hml0
  have hown : s.vm.findClass "java/lang/StringLatin1" = some m.cls := findClass_of_methodNamed Bd.named
  have hnm := (name_of_methodNamed Bd.named Bd.method).1
  have hlk := Bd.notSynchronized
  have X0 : Stand p l e ({ frames := 2, cells := 0, slots := 0, locals := 27 } : Room) s m #[(.ref b), (.int p2)] below meth c s₁ [] 0 0 := Stand.of_body Bd
  have e0 : s₁.heap = h0 := by rw [← hh, Bd.state]; rfl
  have N0 := Fr.nil n0
  show own_Ends p e below s FrameEnd (Qv (own_ch cs p2) h0 n0) 0 0 (s₁.setTop (entryFrame m #[(.ref b), (.int p2)] 2))
  refine own_of (U' := (s₁.setTop (mkF m 0 #[.val (.ref b), .val (.int p2)] []))) (fun _ k => castTop (ef_lc m b p2) k) ?_
  refine own_iloadN X0 hx hby d3_0 rfl ?_
  refine own_aloadN X0 hx hby d3_1 rfl rfl ?_
  obtain ⟨cl9, Ar9, qa9, Sa9, Na9, -, -⟩ := id Vb
  have al9 := X0.arraylength hx (by rw [e0]; exact Ar9.1) (State.isArrayOf_alike hZ.alike Ar9.2.1) (g := (mkF m 2 #[.val (.ref b), .val (.int p2)] [(.ref b), (.int p2)])) rfl rfl (hb hby d3_2)
  rw [len_of Sa9 Na9] at al9
  refine own_of (U' := (s₁.setTop (mkF m 3 #[.val (.ref b), .val (.int p2)] [(.int z), (.int p2)]))) (al9) ?_
  obtain ⟨_, _, ⟨T10, L10, k10, n10⟩, -, X10, ⟨Lc10, hQ10, l10, y10, z10⟩, st10⟩ := Jvm.LawKit.callS X0 hx (y := mN_1) hown (mvT hZ (own_w hw 25 rfl)) (mvT hZ (own_w hw 26 rfl)) (mvT hZ (own_w hw 1 rfl)) (mvT hZ (own_w hw 27 rfl)) (by decide) (backOf (W := 0) (rmci l Z a0 hw [] p2 z rS h0 n0 Z0 h1 h2 SF hrS) hZ (own_w hw 27 rfl) (own_w hw 1 rfl) (by decide) (by decide)) (g := (mkF m 3 #[.val (.ref b), .val (.int p2)] [(.int z), (.int p2)])) rfl (by rw [hml]; rfl) (argsL := [(.int p2), (.int z)]) (rest := []) (lenOf pd_1 rfl) rfl (by show 2 * 0 + _ ≤ _; exact Nat.le_of_eq rfl) (hb hby d3_3) (fun _ _ => ⟨rfl, e0, (by decide : 0 + 0 ≤ _), (by decide : 0 + 0 ≤ _)⟩)
  dsimp only [Pt.U, Pt.locs, Pt.cells, Pt.slots] at X10 l10 y10 z10 st10 hQ10
  subst l10 y10 z10
  obtain ⟨rfl, Nq10, e10⟩ := hQ10
  have N10 := Fr.app N0 Nq10
  refine own_of (U' := (T10.setTop (mkF m 6 #[.val (.ref b), .val (.int p2)] []))) (st10) ?_
  refine own_aloadN X10 hx hby d3_6 rfl rfl ?_
  refine own_iloadN X10 hx hby d3_7 rfl ?_
  obtain ⟨cl11, Ar11, qa11, Sa11, Na11, Ha11, Ga11⟩ := id Vb
  have hin11 : ¬ (p2 < 0 ∨ cl11.slots.size ≤ (p2).toNatClampNeg) := inb_of Sa11 ⟨h1, h2⟩
  have hat11 : cl11.slots[(p2).toNatClampNeg]? = some (.int (own_at cs p2)) := Has.at Ha11 hin11 (own_at_eq cs _)
  refine own_of (U' := (T10.setTop (mkF m 9 #[.val (.ref b), .val (.int p2)] [(.int (own_at cs p2))]))) (X10.baloadBytes hx (j := p2) (v := (.int (own_at cs p2))) (by rw [e10]; exact Ar11.1) (State.isArrayOf_alike hZ.alike Ar11.2.1) Ar11.2.2 hin11 hat11 (g := (mkF m 8 #[.val (.ref b), .val (.int p2)] [(.int p2), (.ref b)])) rfl rfl (hb hby d3_8)) ?_
  refine own_sipush X10 hx hby 255 d3_9 rfl ?_
  refine own_iand X10 hx hby d3_12 ?_
  refine own_i2c X10 hx hby d3_13 ?_
  exact own_retN X10 hx hlk (t := .char) Bd.returns (by simp) (hb hby d3_14) (by decide) (by decide) (⟨rfl, N10, e10⟩)
abbrev mN_3 : MethodName := ⟨"java/lang/String", "isLatin1", "()Z"⟩
theorem d2_0 : decode jdk_42_method_154_code 0 = .ok (.getstatic 38, 3) := by decide +kernel
theorem d2_3 : decode jdk_42_method_154_code 3 = .ok (.ifCond .eq 14, 3) := by decide +kernel
theorem d2_6 : decode jdk_42_method_154_code 6 = .ok (.aload_n 0, 1) := by decide +kernel
theorem d2_7 : decode jdk_42_method_154_code 7 = .ok (.getfield 15, 3) := by decide +kernel
theorem d2_10 : decode jdk_42_method_154_code 10 = .ok (.ifCond .ne 7, 3) := by decide +kernel
theorem d2_13 : decode jdk_42_method_154_code 13 = .ok (.iconst 1, 1) := by decide +kernel
theorem d2_14 : decode jdk_42_method_154_code 14 = .ok (.goto 4, 3) := by decide +kernel
theorem d2_18 : decode jdk_42_method_154_code 18 = .ok (.ireturn, 1) := by decide +kernel
theorem ef_ilL (m : MethodId) (x0 : Addr) : entryFrame m #[(.ref x0)] 1 = mkF m 0 #[.val (.ref x0)] [] := by first | (simp [entryFrame, mkF, argsToLocals, Value.category]; done) | rfl
set_option maxRecDepth 65536 in
set_option maxHeartbeats 40000000 in
theorem rmilL (l : Launch) (Z : State) (a0 : Array Value) (hw : ∀ d ∈ tables_1, d.before a0 Z = true) (ws : List Jvm.Cond) (a1 : Addr) (g1 : Int32) (h0 : Heap) (n0 : Nat) (Z0 : n0 ≤ h0.size) (Fc : Fld Z h0 a1 "java/lang/String" "coder" "B" (.int (0 : Int32))) (SC : Sta Z h0 "java/lang/String" "COMPACT_STRINGS" "Z" (.int g1)) (hg1 : ¬ (g1 = (0 : Int32))) :
    MetFree l mN_3 (head1 (Jvm.Cond.code mN_3 jdk_42_method_154_code 1 (some .boolean) :: ws) ({ frames := 0, cells := 0, slots := 0, locals := 0 } : Room)) (fun a U => a = #[(.ref a1)] ∧ Z.Warmed39 U.vm ∧ U.heap = h0) (fun _ _ _ _ _ => True) (fun _ U o U' => ∃ v L, o = .returned v ∧ (Qv 1 h0 n0) v U'.heap L ∧ FrameEnd U o U' L ({ frames := 0, cells := 0, slots := 0, locals := 0 } : Room).cells ({ frames := 0, cells := 0, slots := 0, locals := 0 } : Room).slots) := by
  refine MetFree.of_bodySF (plainFor_of_name pn_1) hisR ?_
  intro p e s m args below meth c s₁ Bd hml0 hP hK
  obtain ⟨rfl, hZ, hh⟩ := hP
  have hx := Bd.exec
  have hby := Bd.bytes
  have hml : c.maxLocals = 1 := hml0
  have hown : s.vm.findClass "java/lang/String" = some m.cls := findClass_of_methodNamed Bd.named
  have hnm := (name_of_methodNamed Bd.named Bd.method).1
  have hlk := Bd.notSynchronized
  have X0 : Stand p l e ({ frames := 0, cells := 0, slots := 0, locals := 0 } : Room) s m #[(.ref a1)] below meth c s₁ [] 0 0 := Stand.of_body Bd
  have e0 : s₁.heap = h0 := by rw [← hh, Bd.state]; rfl
  have N0 := Fr.nil n0
  show own_Ends p e below s FrameEnd (Qv 1 h0 n0) 0 0 (s₁.setTop (entryFrame m #[(.ref a1)] 1))
  refine own_of (U' := (s₁.setTop (mkF m 0 #[.val (.ref a1)] []))) (fun _ k => castTop (ef_ilL m a1) k) ?_
  obtain ⟨T12, X12, e12, st12⟩ := getS2 X0 hx hZ hown (host := "") (Or.inl (own_w hw 18 rfl)) Via.refl e0 SC (g := (mkF m 0 #[.val (.ref a1)] [])) rfl (hb hby d2_0)
  refine own_of (U' := (T12.setTop (mkF m 3 #[.val (.ref a1)] [(.int g1)]))) (st12) ?_
  have hc3_13 : ¬ (g1 = (0 : Int32)) := hg1
  refine own_ifNo X12 hx hby d2_3 ((if0 _ _).trans (feq hc3_13).1) ?_
  refine own_aloadN X12 hx hby d2_6 rfl rfl ?_
  obtain ⟨T14, X14, e14, st14⟩ := getF X12 hx hZ hown (host := "") (Or.inl (own_w hw 19 rfl)) Via.refl e12 Fc (g := (mkF m 7 #[.val (.ref a1)] [(.ref a1)])) rfl rfl (hb hby d2_7)
  refine own_of (U' := (T14.setTop (mkF m 10 #[.val (.ref a1)] [(.int (0 : Int32))]))) (st14) ?_
  have hc10_15 : (0 : Int32) = (0 : Int32) := by decide
  refine own_ifNo X14 hx hby d2_10 ((if0 _ _).trans (teq hc10_15).2) ?_
  refine own_iconst X14 hx hby 1 d2_13 rfl ?_
  refine own_goto X14 hx hby 14 18 d2_14 (by decide) (by decide) ?_
  exact own_retN X14 hx hlk (t := .boolean) Bd.returns (by simp) (hb hby d2_18) (by decide) (by decide) (⟨rfl, N0, e14⟩)
abbrev mN_4 : MethodName := ⟨"java/lang/String", "charAt", "(I)C"⟩
theorem pd_2 : parseMethodDescriptor "()Z" = some ⟨[], some .boolean⟩ := by decide +kernel
theorem pd_3 : parseMethodDescriptor "([BI)C" = some ⟨[(.array .byte), .int], some .char⟩ := by decide +kernel
theorem d1_0 : decode jdk_42_method_56_code 0 = .ok (.aload_n 0, 1) := by decide +kernel
theorem d1_1 : decode jdk_42_method_56_code 1 = .ok (.invokevirtual 492, 3) := by decide +kernel
theorem d1_4 : decode jdk_42_method_56_code 4 = .ok (.ifCond .eq 12, 3) := by decide +kernel
theorem d1_7 : decode jdk_42_method_56_code 7 = .ok (.aload_n 0, 1) := by decide +kernel
theorem d1_8 : decode jdk_42_method_56_code 8 = .ok (.getfield 9, 3) := by decide +kernel
theorem d1_11 : decode jdk_42_method_56_code 11 = .ok (.iload_n 1, 1) := by decide +kernel
theorem d1_12 : decode jdk_42_method_56_code 12 = .ok (.invokestatic 495, 3) := by decide +kernel
theorem d1_15 : decode jdk_42_method_56_code 15 = .ok (.ireturn, 1) := by decide +kernel
theorem ef_ca (m : MethodId) (x0 : Addr) (x1 : Int32) : entryFrame m #[(.ref x0), (.int x1)] 2 = mkF m 0 #[.val (.ref x0), .val (.int x1)] [] := by first | (simp [entryFrame, mkF, argsToLocals, Value.category]; done) | rfl
set_option maxRecDepth 65536 in
set_option maxHeartbeats 40000000 in
theorem rmca (l : Launch) (Z : State) (a0 : Array Value) (hw : ∀ d ∈ tables_1, d.before a0 Z = true) (ws : List Jvm.Cond) (a1 : Addr) (p2 : Int32) (g1 : Int32) (b : Addr) (kb : ClassId) (z : Int32) (cs : List Int32) (rS : Value) (h0 : Heap) (n0 : Nat) (Z0 : n0 ≤ h0.size) (E1 : Exa Z h0 a1 "java/lang/String") (Fc : Fld Z h0 a1 "java/lang/String" "coder" "B" (.int (0 : Int32))) (Fv : Fld Z h0 a1 "java/lang/String" "value" "[B" (.ref b)) (Vb : Arv Z h0 b kb .byte z (cs.map Value.int) (.int (0 : Int32))) (h1 : ¬ (p2 < (0 : Int32))) (h2 : p2 < z) (SC : Sta Z h0 "java/lang/String" "COMPACT_STRINGS" "Z" (.int g1)) (hg1 : ¬ (g1 = (0 : Int32))) (SF : Sta Z h0 "jdk/internal/util/Preconditions" "SIOOBE_FORMATTER" "Ljava/util/function/BiFunction;" rS) (hrS : rS.isRef = true) :
    MetFree l mN_4 (head1 (Jvm.Cond.code mN_4 jdk_42_method_56_code 2 (some .char) :: ws) ({ frames := 3, cells := 0, slots := 0, locals := 40 } : Room)) (fun a U => a = #[(.ref a1), (.int p2)] ∧ Z.Warmed39 U.vm ∧ U.heap = h0) (fun _ _ _ _ _ => True) (fun _ U o U' => ∃ v L, o = .returned v ∧ (Qv (own_ch cs p2) h0 n0) v U'.heap L ∧ FrameEnd U o U' L ({ frames := 3, cells := 0, slots := 0, locals := 40 } : Room).cells ({ frames := 3, cells := 0, slots := 0, locals := 40 } : Room).slots) := by
  refine MetFree.of_bodySF (plainFor_of_name pn_1) hisR ?_
  intro p e s m args below meth c s₁ Bd hml0 hP hK
  obtain ⟨rfl, hZ, hh⟩ := hP
  have hx := Bd.exec
  have hby := Bd.bytes
  have hml : c.maxLocals = 2 := hml0
  have hown : s.vm.findClass "java/lang/String" = some m.cls := findClass_of_methodNamed Bd.named
  have hnm := (name_of_methodNamed Bd.named Bd.method).1
  have hlk := Bd.notSynchronized
  have X0 : Stand p l e ({ frames := 3, cells := 0, slots := 0, locals := 40 } : Room) s m #[(.ref a1), (.int p2)] below meth c s₁ [] 0 0 := Stand.of_body Bd
  have e0 : s₁.heap = h0 := by rw [← hh, Bd.state]; rfl
  have N0 := Fr.nil n0
  show own_Ends p e below s FrameEnd (Qv (own_ch cs p2) h0 n0) 0 0 (s₁.setTop (entryFrame m #[(.ref a1), (.int p2)] 2))
  refine own_of (U' := (s₁.setTop (mkF m 0 #[.val (.ref a1), .val (.int p2)] []))) (fun _ k => castTop (ef_ca m a1 p2) k) ?_
  refine own_aloadN X0 hx hby d1_0 rfl rfl ?_
  obtain ⟨cq16, kq16, q16a, q16b, q16c⟩ := isOf hZ e0 E1
  obtain ⟨_, _, ⟨T16, L16, k16, n16⟩, -, X16, ⟨Lc16, hQ16, l16, y16, z16⟩, st16⟩ := X0.virtualBack hx (y := mN_3) (z := mN_3) hown (mvT hZ (own_w hw 13 rfl)) (mvT hZ (own_w hw 14 rfl)) (notFace_of_selects (args := #[]) (mvT hZ (own_w hw 16 rfl))) (mvT hZ (own_w hw 16 rfl)) (mvT hZ (own_w hw 15 rfl)) (by decide) (backOf (W := 0) (rmilL l Z a0 hw [] a1 g1 h0 n0 Z0 Fc SC hg1) hZ (own_w hw 17 rfl) (own_w hw 1 rfl) (by decide) (by decide)) q16a q16c (g := (mkF m 1 #[.val (.ref a1), .val (.int p2)] [(.ref a1)])) rfl (by rw [hml]; rfl) (Steps.refl _) (argsL := []) (rest := []) (lenOf pd_2 rfl) rfl (by show 2 * 0 + _ ≤ _; exact Nat.le_of_eq rfl) (hb hby d1_1) (fun _ _ => ⟨rfl, e0, (by decide : 0 + 0 ≤ _), (by decide : 0 + 0 ≤ _)⟩)
  dsimp only [Pt.U, Pt.locs, Pt.cells, Pt.slots] at X16 l16 y16 z16 st16 hQ16
  subst l16 y16 z16
  obtain ⟨rfl, Nq16, e16⟩ := hQ16
  have N16 := Fr.app N0 Nq16
  refine own_of (U' := (T16.setTop (mkF m 4 #[.val (.ref a1), .val (.int p2)] [(.int (1 : Int32))]))) (fun _ k => st16.trans k) ?_
  have hc4_17 : ¬ ((1 : Int32) = (0 : Int32)) := by decide
  refine own_ifNo X16 hx hby d1_4 ((if0 _ _).trans (feq hc4_17).1) ?_
  refine own_aloadN X16 hx hby d1_7 rfl rfl ?_
  obtain ⟨T18, X18, e18, st18⟩ := getF X16 hx hZ hown (host := "") (Or.inl (own_w hw 20 rfl)) Via.refl e16 Fv (g := (mkF m 8 #[.val (.ref a1), .val (.int p2)] [(.ref a1)])) rfl rfl (hb hby d1_8)
  refine own_of (U' := (T18.setTop (mkF m 11 #[.val (.ref a1), .val (.int p2)] [(.ref b)]))) (st18) ?_
  refine own_iloadN X18 hx hby d1_11 rfl ?_
  obtain ⟨_, _, ⟨T19, L19, k19, n19⟩, -, X19, ⟨Lc19, hQ19, l19, y19, z19⟩, st19⟩ := Jvm.LawKit.callS X18 hx (y := mN_2) hown (mvT hZ (own_w hw 21 rfl)) (mvT hZ (own_w hw 22 rfl)) (mvT hZ (own_w hw 23 rfl)) (mvT hZ (own_w hw 24 rfl)) (by decide) (backOf (W := 0) (rmlc l Z a0 hw [] b p2 kb z cs rS h0 n0 Z0 Vb h1 h2 SF hrS) hZ (own_w hw 24 rfl) (own_w hw 23 rfl) (by decide) (by decide)) (g := (mkF m 12 #[.val (.ref a1), .val (.int p2)] [(.int p2), (.ref b)])) rfl (by rw [hml]; rfl) (argsL := [(.ref b), (.int p2)]) (rest := []) (lenOf pd_3 rfl) rfl (by show 2 * 0 + _ ≤ _; exact Nat.le_of_eq rfl) (hb hby d1_12) (fun _ _ => ⟨rfl, e18, (by decide : 0 + 0 ≤ _), (by decide : 0 + 0 ≤ _)⟩)
  dsimp only [Pt.U, Pt.locs, Pt.cells, Pt.slots] at X19 l19 y19 z19 st19 hQ19
  subst l19 y19 z19
  obtain ⟨rfl, Nq19, e19⟩ := hQ19
  have N19 := Fr.app N16 Nq19
  refine own_of (U' := (T19.setTop (mkF m 15 #[.val (.ref a1), .val (.int p2)] [(.int (own_ch cs p2))]))) (st19) ?_
  exact own_retN X19 hx hlk (t := .char) Bd.returns (by simp) (hb hby d1_15) (by decide) (by decide) (⟨congrArg (fun z => some (Value.int z)) (own_nar2 _), N19, e19⟩)
abbrev mN_5 : MethodName := ⟨"com/example/svyazka/svyazka/http/Syntax", "hex", "(C)I"⟩
theorem d6_0 : decode prog_27_method_7_code 0 = .ok (.iload_n 0, 1) := by decide +kernel
theorem d6_1 : decode prog_27_method_7_code 1 = .ok (.bipush 48, 2) := by decide +kernel
theorem d6_3 : decode prog_27_method_7_code 3 = .ok (.if_icmp .lt 14, 3) := by decide +kernel
theorem d6_6 : decode prog_27_method_7_code 6 = .ok (.iload_n 0, 1) := by decide +kernel
theorem d6_7 : decode prog_27_method_7_code 7 = .ok (.bipush 57, 2) := by decide +kernel
theorem d6_9 : decode prog_27_method_7_code 9 = .ok (.if_icmp .gt 8, 3) := by decide +kernel
theorem d6_12 : decode prog_27_method_7_code 12 = .ok (.iload_n 0, 1) := by decide +kernel
theorem d6_13 : decode prog_27_method_7_code 13 = .ok (.bipush 48, 2) := by decide +kernel
theorem d6_15 : decode prog_27_method_7_code 15 = .ok (.isub, 1) := by decide +kernel
theorem d6_16 : decode prog_27_method_7_code 16 = .ok (.ireturn, 1) := by decide +kernel
theorem d6_17 : decode prog_27_method_7_code 17 = .ok (.iload_n 0, 1) := by decide +kernel
theorem d6_18 : decode prog_27_method_7_code 18 = .ok (.bipush 97, 2) := by decide +kernel
theorem d6_20 : decode prog_27_method_7_code 20 = .ok (.if_icmp .lt 17, 3) := by decide +kernel
theorem d6_23 : decode prog_27_method_7_code 23 = .ok (.iload_n 0, 1) := by decide +kernel
theorem d6_24 : decode prog_27_method_7_code 24 = .ok (.bipush 102, 2) := by decide +kernel
theorem d6_26 : decode prog_27_method_7_code 26 = .ok (.if_icmp .gt 11, 3) := by decide +kernel
theorem d6_29 : decode prog_27_method_7_code 29 = .ok (.iload_n 0, 1) := by decide +kernel
theorem d6_30 : decode prog_27_method_7_code 30 = .ok (.bipush 97, 2) := by decide +kernel
theorem d6_32 : decode prog_27_method_7_code 32 = .ok (.isub, 1) := by decide +kernel
theorem d6_33 : decode prog_27_method_7_code 33 = .ok (.bipush 10, 2) := by decide +kernel
theorem d6_35 : decode prog_27_method_7_code 35 = .ok (.iadd, 1) := by decide +kernel
theorem d6_36 : decode prog_27_method_7_code 36 = .ok (.ireturn, 1) := by decide +kernel
theorem d6_37 : decode prog_27_method_7_code 37 = .ok (.iload_n 0, 1) := by decide +kernel
theorem d6_38 : decode prog_27_method_7_code 38 = .ok (.bipush 65, 2) := by decide +kernel
theorem d6_40 : decode prog_27_method_7_code 40 = .ok (.if_icmp .lt 17, 3) := by decide +kernel
theorem d6_43 : decode prog_27_method_7_code 43 = .ok (.iload_n 0, 1) := by decide +kernel
theorem d6_44 : decode prog_27_method_7_code 44 = .ok (.bipush 70, 2) := by decide +kernel
theorem d6_46 : decode prog_27_method_7_code 46 = .ok (.if_icmp .gt 11, 3) := by decide +kernel
theorem d6_49 : decode prog_27_method_7_code 49 = .ok (.iload_n 0, 1) := by decide +kernel
theorem d6_50 : decode prog_27_method_7_code 50 = .ok (.bipush 65, 2) := by decide +kernel
theorem d6_52 : decode prog_27_method_7_code 52 = .ok (.isub, 1) := by decide +kernel
theorem d6_53 : decode prog_27_method_7_code 53 = .ok (.bipush 10, 2) := by decide +kernel
theorem d6_55 : decode prog_27_method_7_code 55 = .ok (.iadd, 1) := by decide +kernel
theorem d6_56 : decode prog_27_method_7_code 56 = .ok (.ireturn, 1) := by decide +kernel
theorem d6_57 : decode prog_27_method_7_code 57 = .ok (.iconst (-1), 1) := by decide +kernel
theorem d6_58 : decode prog_27_method_7_code 58 = .ok (.ireturn, 1) := by decide +kernel
theorem pn_3 : plainName "com/example/svyazka/svyazka/http/Syntax" = true := by first | (simp [plainName, overriddenIn]; done) | decide +kernel
theorem ef_hx (m : MethodId) (x0 : Int32) : entryFrame m #[(.int x0)] 1 = mkF m 0 #[.val (.int x0)] [] := by first | (simp [entryFrame, mkF, argsToLocals, Value.category]; done) | rfl
def Qhx (p1 : Int32) (h0 : Heap) (n0 : Nat) (v : Option Value) (h : Heap) (L : List Loc) : Prop := v = some (.int (own_hex p1)) ∧ Fr n0 L ∧ h = h0
set_option maxRecDepth 65536 in
set_option maxHeartbeats 40000000 in
theorem rmhx (l : Launch) (Z : State) (a0 : Array Value) (hw : ∀ d ∈ tables_1, d.before a0 Z = true) (ws : List Jvm.Cond) (p1 : Int32) (h0 : Heap) (n0 : Nat) (Z0 : n0 ≤ h0.size)  :
    MetFree l mN_5 (head1 (Jvm.Cond.code mN_5 prog_27_method_7_code 1 (some .int) :: ws) ({ frames := 0, cells := 0, slots := 0, locals := 0 } : Room)) (fun a U => a = #[(.int p1)] ∧ Z.Warmed39 U.vm ∧ U.heap = h0) (fun _ _ _ _ _ => True) (fun _ U o U' => ∃ v L, o = .returned v ∧ (Qhx p1 h0 n0) v U'.heap L ∧ FrameEnd U o U' L ({ frames := 0, cells := 0, slots := 0, locals := 0 } : Room).cells ({ frames := 0, cells := 0, slots := 0, locals := 0 } : Room).slots) := by
  refine MetFree.of_bodySF (plainFor_of_name pn_3) hisR ?_
  intro p e s m args below meth c s₁ Bd hml0 hP hK
  obtain ⟨rfl, hZ, hh⟩ := hP
  have hx := Bd.exec
  have hby := Bd.bytes
  have hml : c.maxLocals = 1 := hml0
  have hown : s.vm.findClass "com/example/svyazka/svyazka/http/Syntax" = some m.cls := findClass_of_methodNamed Bd.named
  have hnm := (name_of_methodNamed Bd.named Bd.method).1
  have hlk := Bd.notSynchronized
  have X0 : Stand p l e ({ frames := 0, cells := 0, slots := 0, locals := 0 } : Room) s m #[(.int p1)] below meth c s₁ [] 0 0 := Stand.of_body Bd
  have e0 : s₁.heap = h0 := by rw [← hh, Bd.state]; rfl
  have N0 := Fr.nil n0
  show own_Ends p e below s FrameEnd (Qhx p1 h0 n0) 0 0 (s₁.setTop (entryFrame m #[(.int p1)] 1))
  refine own_of (U' := (s₁.setTop (mkF m 0 #[.val (.int p1)] []))) (fun _ k => castTop (ef_hx m p1) k) ?_
  refine own_iloadN X0 hx hby d6_0 rfl ?_
  refine own_bipush X0 hx hby 48 d6_1 rfl ?_
  by_cases hc3_20 : p1 < (48 : Int32)
  · skip
    refine own_icmpYes X0 hx hby 3 17 d6_3 (tlt hc3_20).1 (by decide) (by decide) ?_
    refine own_iloadN X0 hx hby d6_17 rfl ?_
    refine own_bipush X0 hx hby 97 d6_18 rfl ?_
    by_cases hc20_21 : p1 < (97 : Int32)
    · skip
      refine own_icmpYes X0 hx hby 20 37 d6_20 (tlt hc20_21).1 (by decide) (by decide) ?_
      refine own_iloadN X0 hx hby d6_37 rfl ?_
      refine own_bipush X0 hx hby 65 d6_38 rfl ?_
      by_cases hc40_22 : p1 < (65 : Int32)
      · skip
        refine own_icmpYes X0 hx hby 40 57 d6_40 (tlt hc40_22).1 (by decide) (by decide) ?_
        refine own_iconst X0 hx hby (-1) d6_57 rfl ?_
        exact own_retI X0 hx hlk Bd.returns (hb hby d6_58) (by decide) (by decide) (⟨congrArg (fun z => some (Value.int z)) (show (-1 : Int32) = own_hex p1 from by simp [own_hex, own_b0, own_b1, hc3_20, hc20_21, hc40_22]), N0, e0⟩)
      · skip
        refine own_icmpNo X0 hx hby d6_40 (flt hc40_22).1 ?_
        refine own_iloadN X0 hx hby d6_43 rfl ?_
        refine own_bipush X0 hx hby 70 d6_44 rfl ?_
        by_cases hc46_23 : (70 : Int32) < p1
        · skip
          refine own_icmpYes X0 hx hby 46 57 d6_46 (tlt hc46_23).2.2.1 (by decide) (by decide) ?_
          refine own_iconst X0 hx hby (-1) d6_57 rfl ?_
          exact own_retI X0 hx hlk Bd.returns (hb hby d6_58) (by decide) (by decide) (⟨congrArg (fun z => some (Value.int z)) (show (-1 : Int32) = own_hex p1 from by simp [own_hex, own_b0, own_b1, hc3_20, hc20_21, hc40_22, hc46_23]), N0, e0⟩)
        · skip
          refine own_icmpNo X0 hx hby d6_46 (flt hc46_23).2.2.1 ?_
          refine own_iloadN X0 hx hby d6_49 rfl ?_
          refine own_bipush X0 hx hby 65 d6_50 rfl ?_
          refine own_isub X0 hx hby d6_52 ?_
          refine own_bipush X0 hx hby 10 d6_53 rfl ?_
          refine own_iadd X0 hx hby d6_55 ?_
          exact own_retI X0 hx hlk Bd.returns (hb hby d6_56) (by decide) (by decide) (⟨congrArg (fun z => some (Value.int z)) (show ((p1 - (65 : Int32)) + (10 : Int32)) = own_hex p1 from by simp [own_hex, own_b0, own_b1, hc3_20, hc20_21, hc40_22, hc46_23]), N0, e0⟩)
    · skip
      refine own_icmpNo X0 hx hby d6_20 (flt hc20_21).1 ?_
      refine own_iloadN X0 hx hby d6_23 rfl ?_
      refine own_bipush X0 hx hby 102 d6_24 rfl ?_
      by_cases hc26_24 : (102 : Int32) < p1
      · skip
        refine own_icmpYes X0 hx hby 26 37 d6_26 (tlt hc26_24).2.2.1 (by decide) (by decide) ?_
        refine own_iloadN X0 hx hby d6_37 rfl ?_
        refine own_bipush X0 hx hby 65 d6_38 rfl ?_
        by_cases hc40_25 : p1 < (65 : Int32)
        · skip
          refine own_icmpYes X0 hx hby 40 57 d6_40 (tlt hc40_25).1 (by decide) (by decide) ?_
          refine own_iconst X0 hx hby (-1) d6_57 rfl ?_
          exact own_retI X0 hx hlk Bd.returns (hb hby d6_58) (by decide) (by decide) (⟨congrArg (fun z => some (Value.int z)) (show (-1 : Int32) = own_hex p1 from by simp [own_hex, own_b0, own_b1, hc3_20, hc20_21, hc26_24, hc40_25]), N0, e0⟩)
        · skip
          refine own_icmpNo X0 hx hby d6_40 (flt hc40_25).1 ?_
          refine own_iloadN X0 hx hby d6_43 rfl ?_
          refine own_bipush X0 hx hby 70 d6_44 rfl ?_
          by_cases hc46_26 : (70 : Int32) < p1
          · skip
            refine own_icmpYes X0 hx hby 46 57 d6_46 (tlt hc46_26).2.2.1 (by decide) (by decide) ?_
            refine own_iconst X0 hx hby (-1) d6_57 rfl ?_
            exact own_retI X0 hx hlk Bd.returns (hb hby d6_58) (by decide) (by decide) (⟨congrArg (fun z => some (Value.int z)) (show (-1 : Int32) = own_hex p1 from by simp [own_hex, own_b0, own_b1, hc3_20, hc20_21, hc26_24, hc40_25, hc46_26]), N0, e0⟩)
          · skip
            refine own_icmpNo X0 hx hby d6_46 (flt hc46_26).2.2.1 ?_
            refine own_iloadN X0 hx hby d6_49 rfl ?_
            refine own_bipush X0 hx hby 65 d6_50 rfl ?_
            refine own_isub X0 hx hby d6_52 ?_
            refine own_bipush X0 hx hby 10 d6_53 rfl ?_
            refine own_iadd X0 hx hby d6_55 ?_
            exact own_retI X0 hx hlk Bd.returns (hb hby d6_56) (by decide) (by decide) (⟨congrArg (fun z => some (Value.int z)) (show ((p1 - (65 : Int32)) + (10 : Int32)) = own_hex p1 from by simp [own_hex, own_b0, own_b1, hc3_20, hc20_21, hc26_24, hc40_25, hc46_26]), N0, e0⟩)
      · skip
        refine own_icmpNo X0 hx hby d6_26 (flt hc26_24).2.2.1 ?_
        refine own_iloadN X0 hx hby d6_29 rfl ?_
        refine own_bipush X0 hx hby 97 d6_30 rfl ?_
        refine own_isub X0 hx hby d6_32 ?_
        refine own_bipush X0 hx hby 10 d6_33 rfl ?_
        refine own_iadd X0 hx hby d6_35 ?_
        exact own_retI X0 hx hlk Bd.returns (hb hby d6_36) (by decide) (by decide) (⟨congrArg (fun z => some (Value.int z)) (show ((p1 - (97 : Int32)) + (10 : Int32)) = own_hex p1 from by simp [own_hex, own_b0, own_b1, hc3_20, hc20_21, hc26_24]), N0, e0⟩)
  · skip
    refine own_icmpNo X0 hx hby d6_3 (flt hc3_20).1 ?_
    refine own_iloadN X0 hx hby d6_6 rfl ?_
    refine own_bipush X0 hx hby 57 d6_7 rfl ?_
    by_cases hc9_27 : (57 : Int32) < p1
    · skip
      refine own_icmpYes X0 hx hby 9 17 d6_9 (tlt hc9_27).2.2.1 (by decide) (by decide) ?_
      refine own_iloadN X0 hx hby d6_17 rfl ?_
      refine own_bipush X0 hx hby 97 d6_18 rfl ?_
      by_cases hc20_28 : p1 < (97 : Int32)
      · skip
        refine own_icmpYes X0 hx hby 20 37 d6_20 (tlt hc20_28).1 (by decide) (by decide) ?_
        refine own_iloadN X0 hx hby d6_37 rfl ?_
        refine own_bipush X0 hx hby 65 d6_38 rfl ?_
        by_cases hc40_29 : p1 < (65 : Int32)
        · skip
          refine own_icmpYes X0 hx hby 40 57 d6_40 (tlt hc40_29).1 (by decide) (by decide) ?_
          refine own_iconst X0 hx hby (-1) d6_57 rfl ?_
          exact own_retI X0 hx hlk Bd.returns (hb hby d6_58) (by decide) (by decide) (⟨congrArg (fun z => some (Value.int z)) (show (-1 : Int32) = own_hex p1 from by simp [own_hex, own_b0, own_b1, hc3_20, hc9_27, hc20_28, hc40_29]), N0, e0⟩)
        · skip
          refine own_icmpNo X0 hx hby d6_40 (flt hc40_29).1 ?_
          refine own_iloadN X0 hx hby d6_43 rfl ?_
          refine own_bipush X0 hx hby 70 d6_44 rfl ?_
          by_cases hc46_30 : (70 : Int32) < p1
          · skip
            refine own_icmpYes X0 hx hby 46 57 d6_46 (tlt hc46_30).2.2.1 (by decide) (by decide) ?_
            refine own_iconst X0 hx hby (-1) d6_57 rfl ?_
            exact own_retI X0 hx hlk Bd.returns (hb hby d6_58) (by decide) (by decide) (⟨congrArg (fun z => some (Value.int z)) (show (-1 : Int32) = own_hex p1 from by simp [own_hex, own_b0, own_b1, hc3_20, hc9_27, hc20_28, hc40_29, hc46_30]), N0, e0⟩)
          · skip
            refine own_icmpNo X0 hx hby d6_46 (flt hc46_30).2.2.1 ?_
            refine own_iloadN X0 hx hby d6_49 rfl ?_
            refine own_bipush X0 hx hby 65 d6_50 rfl ?_
            refine own_isub X0 hx hby d6_52 ?_
            refine own_bipush X0 hx hby 10 d6_53 rfl ?_
            refine own_iadd X0 hx hby d6_55 ?_
            exact own_retI X0 hx hlk Bd.returns (hb hby d6_56) (by decide) (by decide) (⟨congrArg (fun z => some (Value.int z)) (show ((p1 - (65 : Int32)) + (10 : Int32)) = own_hex p1 from by simp [own_hex, own_b0, own_b1, hc3_20, hc9_27, hc20_28, hc40_29, hc46_30]), N0, e0⟩)
      · skip
        refine own_icmpNo X0 hx hby d6_20 (flt hc20_28).1 ?_
        refine own_iloadN X0 hx hby d6_23 rfl ?_
        refine own_bipush X0 hx hby 102 d6_24 rfl ?_
        by_cases hc26_31 : (102 : Int32) < p1
        · skip
          refine own_icmpYes X0 hx hby 26 37 d6_26 (tlt hc26_31).2.2.1 (by decide) (by decide) ?_
          refine own_iloadN X0 hx hby d6_37 rfl ?_
          refine own_bipush X0 hx hby 65 d6_38 rfl ?_
          by_cases hc40_32 : p1 < (65 : Int32)
          · skip
            refine own_icmpYes X0 hx hby 40 57 d6_40 (tlt hc40_32).1 (by decide) (by decide) ?_
            refine own_iconst X0 hx hby (-1) d6_57 rfl ?_
            exact own_retI X0 hx hlk Bd.returns (hb hby d6_58) (by decide) (by decide) (⟨congrArg (fun z => some (Value.int z)) (show (-1 : Int32) = own_hex p1 from by simp [own_hex, own_b0, own_b1, hc3_20, hc9_27, hc20_28, hc26_31, hc40_32]), N0, e0⟩)
          · skip
            refine own_icmpNo X0 hx hby d6_40 (flt hc40_32).1 ?_
            refine own_iloadN X0 hx hby d6_43 rfl ?_
            refine own_bipush X0 hx hby 70 d6_44 rfl ?_
            by_cases hc46_33 : (70 : Int32) < p1
            · skip
              refine own_icmpYes X0 hx hby 46 57 d6_46 (tlt hc46_33).2.2.1 (by decide) (by decide) ?_
              refine own_iconst X0 hx hby (-1) d6_57 rfl ?_
              exact own_retI X0 hx hlk Bd.returns (hb hby d6_58) (by decide) (by decide) (⟨congrArg (fun z => some (Value.int z)) (show (-1 : Int32) = own_hex p1 from by simp [own_hex, own_b0, own_b1, hc3_20, hc9_27, hc20_28, hc26_31, hc40_32, hc46_33]), N0, e0⟩)
            · skip
              refine own_icmpNo X0 hx hby d6_46 (flt hc46_33).2.2.1 ?_
              refine own_iloadN X0 hx hby d6_49 rfl ?_
              refine own_bipush X0 hx hby 65 d6_50 rfl ?_
              refine own_isub X0 hx hby d6_52 ?_
              refine own_bipush X0 hx hby 10 d6_53 rfl ?_
              refine own_iadd X0 hx hby d6_55 ?_
              exact own_retI X0 hx hlk Bd.returns (hb hby d6_56) (by decide) (by decide) (⟨congrArg (fun z => some (Value.int z)) (show ((p1 - (65 : Int32)) + (10 : Int32)) = own_hex p1 from by simp [own_hex, own_b0, own_b1, hc3_20, hc9_27, hc20_28, hc26_31, hc40_32, hc46_33]), N0, e0⟩)
        · skip
          refine own_icmpNo X0 hx hby d6_26 (flt hc26_31).2.2.1 ?_
          refine own_iloadN X0 hx hby d6_29 rfl ?_
          refine own_bipush X0 hx hby 97 d6_30 rfl ?_
          refine own_isub X0 hx hby d6_32 ?_
          refine own_bipush X0 hx hby 10 d6_33 rfl ?_
          refine own_iadd X0 hx hby d6_35 ?_
          exact own_retI X0 hx hlk Bd.returns (hb hby d6_36) (by decide) (by decide) (⟨congrArg (fun z => some (Value.int z)) (show ((p1 - (97 : Int32)) + (10 : Int32)) = own_hex p1 from by simp [own_hex, own_b0, own_b1, hc3_20, hc9_27, hc20_28, hc26_31]), N0, e0⟩)
    · skip
      refine own_icmpNo X0 hx hby d6_9 (flt hc9_27).2.2.1 ?_
      refine own_iloadN X0 hx hby d6_12 rfl ?_
      refine own_bipush X0 hx hby 48 d6_13 rfl ?_
      refine own_isub X0 hx hby d6_15 ?_
      exact own_retI X0 hx hlk Bd.returns (hb hby d6_16) (by decide) (by decide) (⟨congrArg (fun z => some (Value.int z)) (show (p1 - (48 : Int32)) = own_hex p1 from by simp [own_hex, own_b0, own_b1, hc3_20, hc9_27]), N0, e0⟩)
theorem pd_4 : parseMethodDescriptor "(I)C" = some ⟨[.int], some .char⟩ := by decide +kernel
theorem pd_5 : parseMethodDescriptor "(C)I" = some ⟨[.char], some .int⟩ := by decide +kernel
theorem pn_4 : plainName "com/example/svyazka/svyazka/http/SyntaxHexPinLaw" = true := by first | (simp [plainName, overriddenIn]; done) | decide +kernel
theorem ef_0 (m : MethodId) (x0 : Int32) (x1 : Int32) : entryFrame m #[(.int x0), (.int x1)] maxLocals = mkF m 0 #[.val (.int x0), .val (.int x1), .unset, .unset, .unset] [] := by first | (simp [entryFrame, mkF, argsToLocals, Value.category, maxLocals]; done) | rfl
def Q0 (n0 : Nat) (v : Option Value) (h : Heap) (L : List Loc) : Prop := v = some (.int 1) ∧ Fr n0 L
set_option maxRecDepth 65536 in
set_option maxHeartbeats 40000000 in
theorem rm0 (l : Launch) (Z : State) (a0 : Array Value) (hw : ∀ d ∈ tables_1, d.before a0 Z = true) (ws : List Jvm.Cond) (p1 p2 g1 : Int32) (rS : Value) (h0 : Heap) (n0 : Nat) (Z0 : n0 ≤ h0.size) (hEL : EW Z a0 consts_1) (SC : Sta Z h0 "java/lang/String" "COMPACT_STRINGS" "Z" (.int g1)) (hg1 : ¬ (g1 = (0 : Int32))) (SF : Sta Z h0 "jdk/internal/util/Preconditions" "SIOOBE_FORMATTER" "Ljava/util/function/BiFunction;" rS) (hrS : rS.isRef = true) :
    MetFree l x (head1 (Jvm.Cond.code x code maxLocals ret :: ws) room_1) (fun a U => a = #[(.int p1), (.int p2)] ∧ Z.Warmed39 U.vm ∧ U.heap = h0 ∧ CHv Z consts_1 U.vm h0) (fun _ _ _ _ _ => True) (fun _ U o U' => ∃ v L, o = .returned v ∧ (Q0 n0) v U'.heap L ∧ ReturnedEndW U o U' L 8 2112) := by
  refine MetFree.of_bodySF (plainFor_of_name pn_4) hisR ?_
  intro p e s m args below meth c s₁ Bd hml0 hP hK
  obtain ⟨rfl, hZ, hh, HH⟩ := hP
  have hx := Bd.exec
  have hby := Bd.bytes
  have hml : c.maxLocals = 5 := hml0
  have hown : s.vm.findClass "com/example/svyazka/svyazka/http/SyntaxHexPinLaw" = some m.cls := findClass_of_methodNamed Bd.named
  have hnm := (name_of_methodNamed Bd.named Bd.method).1
  have hlk := Bd.notSynchronized
  have X0 : Stand p l e room_1 (s.setVm s.vm) m #[(.int p1), (.int p2)] below meth c s₁ [] 0 0 := Stand.of_body Bd
  have hS := (State.WarmedH.refl s).since 0
  have hkS : 0 ≤ h0.size := Nat.zero_le _
  replace hZ : Z.Warmed39 (s.setVm s.vm).vm := hZ
  replace hown : (s.setVm s.vm).vm.findClass "com/example/svyazka/svyazka/http/SyntaxHexPinLaw" = some m.cls := hown
  replace HH : CHv Z consts_1 s.vm h0 := HH
  have e0 : s₁.heap = h0 := by rw [← hh, Bd.state]; rfl
  have N0 := Fr.nil n0
  show own_Ends p e below s ReturnedEndW (Q0 n0) 8 2112 (s₁.setTop (entryFrame m #[(.int p1), (.int p2)] maxLocals))
  refine own_of (U' := (s₁.setTop (mkF m 0 #[.val (.int p1), .val (.int p2), .unset, .unset, .unset] []))) (fun _ k => castTop (ef_0 m p1 p2) k) ?_
  refine own_iloadN X0 hx hby at_0 rfl ?_
  refine own_bipush X0 hx hby 15 at_1 rfl ?_
  refine own_iand X0 hx hby at_3 ?_
  obtain ⟨d1, hd1⟩ : ∃ z, z = (p2 &&& (15 : Int32)) := ⟨_, rfl⟩
  refine own_eq (U' := (s₁.setTop (mkF m 4 #[.val (.int p1), .val (.int p2), .unset, .unset, .unset] [(.int d1)]))) (by rw [hd1]) ?_
  refine own_istoreN X0 hx hby at_4 (l' := #[.val (.int p1), .val (.int p2), .val (.int d1), .unset, .unset]) rfl ?_
  have hd1b := own_d p2
  rw [← hd1] at hd1b
  obtain ⟨f1, hf1⟩ := own_16 d1 hd1b.1 hd1b.2
  obtain ⟨a34, T34, h34, k34, b34, kb34, X34, e34, E34, hS, hkN34, hZ, hown, Es34, Fc34, Fv34, Vb34, -, -, CH34, Lt34, -, st34⟩ := ldcCH X0 hx hZ hown (own_w hw 0 rfl) (own_strAtoms hw) e0 hS hkS hEL (List.mem_of_getElem? (i := 0) rfl) HH (vs := own_lo.map Value.int) (z := (16 : Int32)) ⟨by decide +kernel, by decide +kernel⟩ (by decide) (by decide +kernel) (g := (mkF m 5 #[.val (.int p1), .val (.int p2), .val (.int d1), .unset, .unset] [])) rfl (hb hby at_5) (n := 64) (by decide +kernel) (by decide) (by decide) (by decide)
  replace Z0 := Nat.le_trans Z0 E34.1
  replace SC := SC.ext E34
  replace SF := SF.ext E34
  have hkS := hkN34
  have HH := CH34.1
  refine own_of (U' := (T34.setTop (mkF m 7 #[.val (.int p1), .val (.int p2), .val (.int d1), .unset, .unset] [(.ref a34)]))) (st34) ?_
  refine own_iloadN X34 hx hby at_7 rfl ?_
  obtain ⟨cq35, kq35, q35a, q35b, q35c⟩ := isOf hZ e34 Es34
  obtain ⟨_, _, ⟨T35, L35, k35, n35⟩, -, X35, ⟨Lc35, hQ35, l35, y35, z35⟩, st35⟩ := X34.virtualBack hx (y := mN_4) (z := mN_4) hown (mvT hZ (own_w hw 8 rfl)) (mvT hZ (own_w hw 9 rfl)) (notFace_of_selects (args := #[]) (mvT hZ (own_w hw 11 rfl))) (mvT hZ (own_w hw 11 rfl)) (mvT hZ (own_w hw 10 rfl)) (by decide) (backOf (W := 0) (rmca l Z a0 hw [] a34 d1 g1 b34 kb34 (16 : Int32) own_lo rS h34 n0 Z0 Es34 Fc34 Fv34 Vb34 (own_ge hd1b.1) (own_lt16 hd1b.2) SC hg1 SF hrS) hZ (own_w hw 12 rfl) (own_w hw 1 rfl) (by decide) (by decide)) q35a q35c (g := (mkF m 8 #[.val (.int p1), .val (.int p2), .val (.int d1), .unset, .unset] [(.int d1), (.ref a34)])) rfl (by rw [hml]; rfl) (Steps.refl _) (argsL := [(.int d1)]) (rest := []) (lenOf pd_4 rfl) rfl (by show 2 * 0 + _ ≤ _; exact Nat.le_of_eq rfl) (hb hby at_8) (fun _ _ => ⟨rfl, e34, (by decide : 2 + 0 ≤ _), (by decide : 68 + 0 ≤ _)⟩)
  dsimp only [Pt.U, Pt.locs, Pt.cells, Pt.slots] at X35 l35 y35 z35 st35 hQ35
  subst l35 y35 z35
  obtain ⟨rfl, Nq35, e35⟩ := hQ35
  have N35 := Fr.app N0 Nq35
  refine own_of (U' := (T35.setTop (mkF m 11 #[.val (.int p1), .val (.int p2), .val (.int d1), .unset, .unset] [(.int (own_ch own_lo d1))]))) (fun _ k => st35.trans k) ?_
  obtain ⟨_, _, ⟨T36, L36, k36, n36⟩, -, X36, ⟨Lc36, hQ36, l36, y36, z36⟩, st36⟩ := Jvm.LawKit.callS X35 hx (y := mN_5) hown (mvT hZ (own_w hw 33 rfl)) (mvT hZ (own_w hw 34 rfl)) (mvT hZ (own_w hw 35 rfl)) (mvT hZ (own_w hw 36 rfl)) (by decide) (backOf (W := 0) (rmhx l Z a0 hw [] (own_ch own_lo d1) h34 n0 Z0 ) hZ (own_w hw 36 rfl) (own_w hw 35 rfl) (by decide) (by decide)) (g := (mkF m 11 #[.val (.int p1), .val (.int p2), .val (.int d1), .unset, .unset] [(.int (own_ch own_lo d1))])) rfl (by rw [hml]; rfl) (argsL := [(.int (own_ch own_lo d1))]) (rest := []) (lenOf pd_5 rfl) rfl (by show 2 * 0 + _ ≤ _; exact Nat.le_of_eq rfl) (hb hby at_11) (fun _ _ => ⟨rfl, e35, (by decide : 2 + 0 ≤ _), (by decide : 68 + 0 ≤ _)⟩)
  dsimp only [Pt.U, Pt.locs, Pt.cells, Pt.slots] at X36 l36 y36 z36 st36 hQ36
  subst l36 y36 z36
  obtain ⟨rfl, Nq36, e36⟩ := hQ36
  have N36 := Fr.app N35 Nq36
  refine own_of (U' := (T36.setTop (mkF m 14 #[.val (.int p1), .val (.int p2), .val (.int d1), .unset, .unset] [(.int (own_hex (own_ch own_lo d1)))]))) (st36) ?_
  refine own_iloadN X36 hx hby at_14 rfl ?_
  have hc15_37 : (own_hex (own_ch own_lo d1)) = d1 := by rw [hf1]; exact own_hlo f1
  refine own_icmpYes X36 hx hby 15 20 at_15 (teq hc15_37).1 (by decide) (by decide) ?_
  obtain ⟨a38, T38, h38, k38, b38, kb38, X38, e38, E38, hS, hkN38, hZ, hown, Es38, Fc38, Fv38, Vb38, -, -, CH38, Lt38, -, st38⟩ := ldcCH X36 hx hZ hown (own_w hw 37 rfl) (own_strAtoms hw) e36 hS hkS hEL (List.mem_of_getElem? (i := 1) rfl) HH (vs := own_up.map Value.int) (z := (16 : Int32)) ⟨by decide +kernel, by decide +kernel⟩ (by decide) (by decide +kernel) (g := (mkF m 20 #[.val (.int p1), .val (.int p2), .val (.int d1), .unset, .unset] [])) rfl (hb hby at_20) (n := 64) (by decide +kernel) (by decide) (by decide) (by decide)
  replace Z0 := Nat.le_trans Z0 E38.1
  replace SC := SC.ext E38
  replace SF := SF.ext E38
  replace Es34 := Es34.ext E38
  replace Fc34 := Fc34.ext E38
  replace Fv34 := Fv34.ext E38
  replace Vb34 := Vb34.ext E38
  have hkS := hkN38
  have HH := CH38.1
  refine own_of (U' := (T38.setTop (mkF m 22 #[.val (.int p1), .val (.int p2), .val (.int d1), .unset, .unset] [(.ref a38)]))) (st38) ?_
  refine own_iloadN X38 hx hby at_22 rfl ?_
  obtain ⟨cq39, kq39, q39a, q39b, q39c⟩ := isOf hZ e38 Es38
  obtain ⟨_, _, ⟨T39, L39, k39, n39⟩, -, X39, ⟨Lc39, hQ39, l39, y39, z39⟩, st39⟩ := X38.virtualBack hx (y := mN_4) (z := mN_4) hown (mvT hZ (own_w hw 8 rfl)) (mvT hZ (own_w hw 9 rfl)) (notFace_of_selects (args := #[]) (mvT hZ (own_w hw 11 rfl))) (mvT hZ (own_w hw 11 rfl)) (mvT hZ (own_w hw 10 rfl)) (by decide) (backOf (W := 0) (rmca l Z a0 hw [] a38 d1 g1 b38 kb38 (16 : Int32) own_up rS h38 n0 Z0 Es38 Fc38 Fv38 Vb38 (own_ge hd1b.1) (own_lt16 hd1b.2) SC hg1 SF hrS) hZ (own_w hw 12 rfl) (own_w hw 1 rfl) (by decide) (by decide)) q39a q39c (g := (mkF m 23 #[.val (.int p1), .val (.int p2), .val (.int d1), .unset, .unset] [(.int d1), (.ref a38)])) rfl (by rw [hml]; rfl) (Steps.refl _) (argsL := [(.int d1)]) (rest := []) (lenOf pd_4 rfl) rfl (by show 2 * 0 + _ ≤ _; exact Nat.le_of_eq rfl) (hb hby at_23) (fun _ _ => ⟨rfl, e38, (by decide : 4 + 0 ≤ _), (by decide : 136 + 0 ≤ _)⟩)
  dsimp only [Pt.U, Pt.locs, Pt.cells, Pt.slots] at X39 l39 y39 z39 st39 hQ39
  subst l39 y39 z39
  obtain ⟨rfl, Nq39, e39⟩ := hQ39
  have N39 := Fr.app N36 Nq39
  refine own_of (U' := (T39.setTop (mkF m 26 #[.val (.int p1), .val (.int p2), .val (.int d1), .unset, .unset] [(.int (own_ch own_up d1))]))) (fun _ k => st39.trans k) ?_
  obtain ⟨_, _, ⟨T40, L40, k40, n40⟩, -, X40, ⟨Lc40, hQ40, l40, y40, z40⟩, st40⟩ := Jvm.LawKit.callS X39 hx (y := mN_5) hown (mvT hZ (own_w hw 33 rfl)) (mvT hZ (own_w hw 34 rfl)) (mvT hZ (own_w hw 35 rfl)) (mvT hZ (own_w hw 36 rfl)) (by decide) (backOf (W := 0) (rmhx l Z a0 hw [] (own_ch own_up d1) h38 n0 Z0 ) hZ (own_w hw 36 rfl) (own_w hw 35 rfl) (by decide) (by decide)) (g := (mkF m 26 #[.val (.int p1), .val (.int p2), .val (.int d1), .unset, .unset] [(.int (own_ch own_up d1))])) rfl (by rw [hml]; rfl) (argsL := [(.int (own_ch own_up d1))]) (rest := []) (lenOf pd_5 rfl) rfl (by show 2 * 0 + _ ≤ _; exact Nat.le_of_eq rfl) (hb hby at_26) (fun _ _ => ⟨rfl, e39, (by decide : 4 + 0 ≤ _), (by decide : 136 + 0 ≤ _)⟩)
  dsimp only [Pt.U, Pt.locs, Pt.cells, Pt.slots] at X40 l40 y40 z40 st40 hQ40
  subst l40 y40 z40
  obtain ⟨rfl, Nq40, e40⟩ := hQ40
  have N40 := Fr.app N39 Nq40
  refine own_of (U' := (T40.setTop (mkF m 29 #[.val (.int p1), .val (.int p2), .val (.int d1), .unset, .unset] [(.int (own_hex (own_ch own_up d1)))]))) (st40) ?_
  refine own_iloadN X40 hx hby at_29 rfl ?_
  have hc30_41 : (own_hex (own_ch own_up d1)) = d1 := by rw [hf1]; exact own_hup f1
  refine own_icmpYes X40 hx hby 30 35 at_30 (teq hc30_41).1 (by decide) (by decide) ?_
  refine own_iloadN X40 hx hby at_35 rfl ?_
  refine own_i2c X40 hx hby at_36 ?_
  obtain ⟨ch1, hch1⟩ : ∃ z, z = (p1.toUInt32.toUInt16.toUInt32.toInt32) := ⟨_, rfl⟩
  refine own_eq (U' := (T40.setTop (mkF m 37 #[.val (.int p1), .val (.int p2), .val (.int d1), .unset, .unset] [(.int ch1)]))) (by rw [hch1]) ?_
  refine own_istoreN X40 hx hby at_37 (l' := #[.val (.int p1), .val (.int p2), .val (.int d1), .val (.int ch1), .unset]) rfl ?_
  refine own_iloadN X40 hx hby at_38 rfl ?_
  obtain ⟨_, _, ⟨T42, L42, k42, n42⟩, -, X42, ⟨Lc42, hQ42, l42, y42, z42⟩, st42⟩ := Jvm.LawKit.callS X40 hx (y := mN_5) hown (mvT hZ (own_w hw 33 rfl)) (mvT hZ (own_w hw 34 rfl)) (mvT hZ (own_w hw 35 rfl)) (mvT hZ (own_w hw 36 rfl)) (by decide) (backOf (W := 0) (rmhx l Z a0 hw [] ch1 h38 n0 Z0 ) hZ (own_w hw 36 rfl) (own_w hw 35 rfl) (by decide) (by decide)) (g := (mkF m 39 #[.val (.int p1), .val (.int p2), .val (.int d1), .val (.int ch1), .unset] [(.int ch1)])) rfl (by rw [hml]; rfl) (argsL := [(.int ch1)]) (rest := []) (lenOf pd_5 rfl) rfl (by show 2 * 0 + _ ≤ _; exact Nat.le_of_eq rfl) (hb hby at_39) (fun _ _ => ⟨rfl, e40, (by decide : 4 + 0 ≤ _), (by decide : 136 + 0 ≤ _)⟩)
  dsimp only [Pt.U, Pt.locs, Pt.cells, Pt.slots] at X42 l42 y42 z42 st42 hQ42
  subst l42 y42 z42
  obtain ⟨rfl, Nq42, e42⟩ := hQ42
  have N42 := Fr.app N40 Nq42
  refine own_of (U' := (T42.setTop (mkF m 42 #[.val (.int p1), .val (.int p2), .val (.int d1), .val (.int ch1), .unset] [(.int (own_hex ch1))]))) (st42) ?_
  obtain ⟨r1, hr1⟩ : ∃ z, z = (own_hex ch1) := ⟨_, rfl⟩
  refine own_eq (U' := (T42.setTop (mkF m 42 #[.val (.int p1), .val (.int p2), .val (.int d1), .val (.int ch1), .unset] [(.int r1)]))) (by rw [hr1]) ?_
  refine own_istore X42 hx hby at_42 (l' := #[.val (.int p1), .val (.int p2), .val (.int d1), .val (.int ch1), .val (.int r1)]) rfl ?_
  refine own_iload X42 hx hby at_44 rfl ?_
  refine own_iconst X42 hx hby (-1) at_46 rfl ?_
  by_cases hc47_43 : r1 = (-1 : Int32)
  · skip
    refine own_icmpNo X42 hx hby at_47 (teq hc47_43).2 ?_
    refine own_iconst X42 hx hby 1 at_50 rfl ?_
    exact own_retNW X42 hx hlk hS (by rw [e42]; exact hkS) (t := .boolean) Bd.returns (by simp) (hb hby at_51) (by decide) (by decide) (⟨rfl, N42⟩)
  · skip
    refine own_icmpYes X42 hx hby 47 52 at_47 (feq hc47_43).2 (by decide) (by decide) ?_
    have hall := own_hex_all ch1
    rw [← hr1] at hall
    have hrb : 0 ≤ r1.toInt ∧ r1.toInt ≤ 15 ∧ (ch1 = own_ch own_lo r1 ∨ ch1 = own_ch own_up r1) := hall.resolve_left (by assumption)
    refine own_iload X42 hx hby at_52 rfl ?_
    have hc54_44 : ¬ (r1 < (0 : Int32)) := own_ge hrb.1
    refine own_ifNo X42 hx hby at_54 ((if0 _ _).trans (flt hc54_44).1) ?_
    refine own_iload X42 hx hby at_57 rfl ?_
    refine own_bipush X42 hx hby 15 at_59 rfl ?_
    have hc61_45 : ¬ ((15 : Int32) < r1) := by rw [Int32.lt_iff_toInt_lt, show (15 : Int32).toInt = 15 by decide]; omega
    refine own_icmpYes X42 hx hby 61 66 at_61 (flt hc61_45).2.2.2 (by decide) (by decide) ?_
    refine own_iloadN X42 hx hby at_66 rfl ?_
    obtain ⟨a46, T46, h46, k46, b46, kb46, X46, e46, E46, hS, hkN46, hZ, hown, Es46, Fc46, Fv46, Vb46, -, -, CH46, Lt46, -, st46⟩ := ldcCH X42 hx hZ hown (own_w hw 0 rfl) (own_strAtoms hw) e42 hS hkS hEL (List.mem_of_getElem? (i := 0) rfl) HH (vs := own_lo.map Value.int) (z := (16 : Int32)) ⟨by decide +kernel, by decide +kernel⟩ (by decide) (by decide +kernel) (g := (mkF m 67 #[.val (.int p1), .val (.int p2), .val (.int d1), .val (.int ch1), .val (.int r1)] [(.int ch1)])) rfl (hb hby at_67) (n := 64) (by decide +kernel) (by decide) (by decide) (by decide)
    replace Z0 := Nat.le_trans Z0 E46.1
    replace SC := SC.ext E46
    replace SF := SF.ext E46
    replace Es34 := Es34.ext E46
    replace Fc34 := Fc34.ext E46
    replace Fv34 := Fv34.ext E46
    replace Vb34 := Vb34.ext E46
    replace Es38 := Es38.ext E46
    replace Fc38 := Fc38.ext E46
    replace Fv38 := Fv38.ext E46
    replace Vb38 := Vb38.ext E46
    have hkS := hkN46
    have HH := CH46.1
    refine own_of (U' := (T46.setTop (mkF m 69 #[.val (.int p1), .val (.int p2), .val (.int d1), .val (.int ch1), .val (.int r1)] [(.ref a46), (.int ch1)]))) (st46) ?_
    refine own_iload X46 hx hby at_69 rfl ?_
    obtain ⟨cq47, kq47, q47a, q47b, q47c⟩ := isOf hZ e46 Es46
    obtain ⟨_, _, ⟨T47, L47, k47, n47⟩, -, X47, ⟨Lc47, hQ47, l47, y47, z47⟩, st47⟩ := X46.virtualBack hx (y := mN_4) (z := mN_4) hown (mvT hZ (own_w hw 8 rfl)) (mvT hZ (own_w hw 9 rfl)) (notFace_of_selects (args := #[]) (mvT hZ (own_w hw 11 rfl))) (mvT hZ (own_w hw 11 rfl)) (mvT hZ (own_w hw 10 rfl)) (by decide) (backOf (W := 1) (rmca l Z a0 hw [] a46 r1 g1 b46 kb46 (16 : Int32) own_lo rS h46 n0 Z0 Es46 Fc46 Fv46 Vb46 (own_ge hrb.1) (own_lt16 (by omega)) SC hg1 SF hrS) hZ (own_w hw 12 rfl) (own_w hw 1 rfl) (by decide) (by decide)) q47a q47c (g := (mkF m 71 #[.val (.int p1), .val (.int p2), .val (.int d1), .val (.int ch1), .val (.int r1)] [(.int r1), (.ref a46), (.int ch1)])) rfl (by rw [hml]; rfl) (Steps.refl _) (argsL := [(.int r1)]) (rest := [(.int ch1)]) (lenOf pd_4 rfl) rfl (by show 2 * 0 + _ ≤ _; exact Nat.le_of_eq rfl) (hb hby at_71) (fun _ _ => ⟨rfl, e46, (by decide : 6 + 0 ≤ _), (by decide : 204 + 0 ≤ _)⟩)
    dsimp only [Pt.U, Pt.locs, Pt.cells, Pt.slots] at X47 l47 y47 z47 st47 hQ47
    subst l47 y47 z47
    obtain ⟨rfl, Nq47, e47⟩ := hQ47
    have N47 := Fr.app N42 Nq47
    refine own_of (U' := (T47.setTop (mkF m 74 #[.val (.int p1), .val (.int p2), .val (.int d1), .val (.int ch1), .val (.int r1)] [(.int (own_ch own_lo r1)), (.int ch1)]))) (fun _ k => st47.trans k) ?_
    by_cases hc74_48 : ch1 = (own_ch own_lo r1)
    · skip
      refine own_icmpYes X47 hx hby 74 88 at_74 (teq hc74_48).1 (by decide) (by decide) ?_
      refine own_iconst X47 hx hby 1 at_88 rfl ?_
      refine own_goto X47 hx hby 89 93 at_89 (by decide) (by decide) ?_
      exact own_retNW X47 hx hlk hS (by rw [e47]; exact hkS) (t := .boolean) Bd.returns (by simp) (hb hby at_93) (by decide) (by decide) (⟨rfl, N47⟩)
    · skip
      refine own_icmpNo X47 hx hby at_74 (feq hc74_48).1 ?_
      refine own_iloadN X47 hx hby at_77 rfl ?_
      obtain ⟨a49, T49, h49, k49, b49, kb49, X49, e49, E49, hS, hkN49, hZ, hown, Es49, Fc49, Fv49, Vb49, -, -, CH49, Lt49, -, st49⟩ := ldcCH X47 hx hZ hown (own_w hw 37 rfl) (own_strAtoms hw) e47 hS hkS hEL (List.mem_of_getElem? (i := 1) rfl) HH (vs := own_up.map Value.int) (z := (16 : Int32)) ⟨by decide +kernel, by decide +kernel⟩ (by decide) (by decide +kernel) (g := (mkF m 78 #[.val (.int p1), .val (.int p2), .val (.int d1), .val (.int ch1), .val (.int r1)] [(.int ch1)])) rfl (hb hby at_78) (n := 64) (by decide +kernel) (by decide) (by decide) (by decide)
      replace Z0 := Nat.le_trans Z0 E49.1
      replace SC := SC.ext E49
      replace SF := SF.ext E49
      replace Es34 := Es34.ext E49
      replace Fc34 := Fc34.ext E49
      replace Fv34 := Fv34.ext E49
      replace Vb34 := Vb34.ext E49
      replace Es38 := Es38.ext E49
      replace Fc38 := Fc38.ext E49
      replace Fv38 := Fv38.ext E49
      replace Vb38 := Vb38.ext E49
      replace Es46 := Es46.ext E49
      replace Fc46 := Fc46.ext E49
      replace Fv46 := Fv46.ext E49
      replace Vb46 := Vb46.ext E49
      have hkS := hkN49
      have HH := CH49.1
      refine own_of (U' := (T49.setTop (mkF m 80 #[.val (.int p1), .val (.int p2), .val (.int d1), .val (.int ch1), .val (.int r1)] [(.ref a49), (.int ch1)]))) (st49) ?_
      refine own_iload X49 hx hby at_80 rfl ?_
      obtain ⟨cq50, kq50, q50a, q50b, q50c⟩ := isOf hZ e49 Es49
      obtain ⟨_, _, ⟨T50, L50, k50, n50⟩, -, X50, ⟨Lc50, hQ50, l50, y50, z50⟩, st50⟩ := X49.virtualBack hx (y := mN_4) (z := mN_4) hown (mvT hZ (own_w hw 8 rfl)) (mvT hZ (own_w hw 9 rfl)) (notFace_of_selects (args := #[]) (mvT hZ (own_w hw 11 rfl))) (mvT hZ (own_w hw 11 rfl)) (mvT hZ (own_w hw 10 rfl)) (by decide) (backOf (W := 1) (rmca l Z a0 hw [] a49 r1 g1 b49 kb49 (16 : Int32) own_up rS h49 n0 Z0 Es49 Fc49 Fv49 Vb49 (own_ge hrb.1) (own_lt16 (by omega)) SC hg1 SF hrS) hZ (own_w hw 12 rfl) (own_w hw 1 rfl) (by decide) (by decide)) q50a q50c (g := (mkF m 82 #[.val (.int p1), .val (.int p2), .val (.int d1), .val (.int ch1), .val (.int r1)] [(.int r1), (.ref a49), (.int ch1)])) rfl (by rw [hml]; rfl) (Steps.refl _) (argsL := [(.int r1)]) (rest := [(.int ch1)]) (lenOf pd_4 rfl) rfl (by show 2 * 0 + _ ≤ _; exact Nat.le_of_eq rfl) (hb hby at_82) (fun _ _ => ⟨rfl, e49, (by decide : 8 + 0 ≤ _), (by decide : 272 + 0 ≤ _)⟩)
      dsimp only [Pt.U, Pt.locs, Pt.cells, Pt.slots] at X50 l50 y50 z50 st50 hQ50
      subst l50 y50 z50
      obtain ⟨rfl, Nq50, e50⟩ := hQ50
      have N50 := Fr.app N47 Nq50
      refine own_of (U' := (T50.setTop (mkF m 85 #[.val (.int p1), .val (.int p2), .val (.int d1), .val (.int ch1), .val (.int r1)] [(.int (own_ch own_up r1)), (.int ch1)]))) (fun _ k => st50.trans k) ?_
      have hc85_51 : ch1 = (own_ch own_up r1) := hrb.2.2.resolve_left hc74_48
      refine own_icmpNo X50 hx hby at_85 (teq hc85_51).2 ?_
      refine own_iconst X50 hx hby 1 at_88 rfl ?_
      refine own_goto X50 hx hby 89 93 at_89 (by decide) (by decide) ?_
      exact own_retNW X50 hx hlk hS (by rw [e50]; exact hkS) (t := .boolean) Bd.returns (by simp) (hb hby at_93) (by decide) (by decide) (⟨rfl, N50⟩)
set_option maxRecDepth 65536 in
set_option maxHeartbeats 40000000 in
theorem comes_1 {Post : Tables → Env → Array Value → State → Outcome → State → Prop} (hpost : ∀ tb e args s v u, (limb_1_1.after args s (.returned v) u = true ∧ limb_1_2.after args s (.returned v) u = true ∧ True) → ReturnedEndW s (.returned v) u (Jvm.fieldLocs frame_1_writes args s ++ Jvm.arrayLocs frame_1_arrays args s ++ Jvm.staticLocs frame_1_statics s) 8 2112 → Post tb e args s (.returned v) u) :
    ArmFor flags0 classFile x code maxLocals ret World_1 tables_1 room_1 Calls_1 rest_1 Pre_1 Post := by
  intro l hfl _ _ p e ha hc hk s m args below hf hA hF happ hP
  obtain ⟨hcalls, hrest, hpre⟩ := hP
  obtain ⟨-, -, -, hnamed, -, -, -, hat⟩ := (Spec.applies_iff hf).mp happ
  obtain ⟨hg, hn⟩ := and_e (Cond.before_iff.mp (show (Jvm.Cond.and given_1 narrow_1).before args s = true from hpre))
  obtain ⟨hcount, hv0⟩ := and_e hg
  obtain ⟨hi0, hv1⟩ := and_e hv0
  obtain ⟨w0, w1, rfl⟩ : ∃ w0 w1 : Value, args = #[w0, w1] := by
    have hs : args.size = 2 := by simpa [Cond.value, given_1] using hcount
    obtain ⟨L⟩ := args
    match L, hs with
    | [w0, w1], _ => exact ⟨w0, w1, rfl⟩
  have hw := fun d (hd : d ∈ tables_1) => atoms_spec (ws := Jvm.Cond.code x code maxLocals ret :: tables_1) hat d (List.mem_cons_of_mem _ hd)
  have hfit : Fit s := fun {y c} hc i hi => by
    obtain ⟨ha, rfl⟩ := Array.getElem?_eq_some_iff.mp hc
    have q := List.all_eq_true.mp ((Array.all_eq_true_iff_forall_mem.mp hF) _ (Array.getElem_mem ha)) i (List.mem_range.mpr hi)
    simpa [Array.getElem?_eq_getElem hi] using q
  obtain ⟨hsets, hown0⟩ := atoms_of _ (rest_1_c_eq ▸ (show rest_1_c.before _ s = true from hrest))
  have hr0 := Cond.before_iff.mp hown0
  obtain ⟨i0, ei0⟩ := is_v hi0
  obtain rfl : w0 = (.int i0) := Option.some.inj ei0
  obtain ⟨i1, ei1⟩ := is_v hv1
  obtain rfl : w1 = (.int i1) := Option.some.inj ei1
  obtain ⟨g1, eg1⟩ := is_v (Cond.before_iff.mp (hsets _ (List.mem_of_getElem? (i := 1) rfl)))
  have SC : Sta s s.heap "java/lang/String" "COMPACT_STRINGS" "Z" (.int g1) := Sta.start eg1 (Or.inl (hsets _ (List.mem_of_getElem? (i := 0) rfl)))
  have hg1 : ¬ (g1 = (0 : Int32)) := gotF (Cond.eq_ints eg1 (Term.int_eval 0)) (not_v (Cond.before_iff.mp (hsets _ (List.mem_of_getElem? (i := 2) rfl))))
  obtain ⟨rS, erS, hrS⟩ := isR_v (Cond.before_iff.mp (hsets _ (List.mem_of_getElem? (i := 8) rfl)))
  have SF : Sta s s.heap "jdk/internal/util/Preconditions" "SIOOBE_FORMATTER" "Ljava/util/function/BiFunction;" rS := Sta.start erS (Or.inl (hsets _ (List.mem_of_getElem? (i := 7) rfl)))
  have hEL : EW s #[.int i0, .int i1] consts_1 := EW.cons (hw _ (List.mem_of_getElem? (i := 0) rfl)) (by decide +kernel) (EW.cons (hw _ (List.mem_of_getElem? (i := 37) rfl)) (by decide +kernel) EW.nil)
  have HH : CHv s consts_1 s.vm s.heap := CHv.start hEL hcalls.1 (hsets _ (List.mem_of_getElem? (i := 2) rfl)) (hw _ (List.mem_of_getElem? (i := 3) rfl)) (hw _ (List.mem_of_getElem? (i := 2) rfl))
  obtain ⟨n, o, h1, h2, h3, _, L, rfl, ⟨rfl, N⟩, hq⟩ := rm0 l s _ hw tables_1 i0 i1 g1 rS s.heap s.heap.size (Nat.le_refl _) hEL SC hg1 SF hrS p e ha hc hk s m _ below hf ((Spec.applies_iff_loose hf).mp happ).1 ⟨rfl, State.Warmed39.refl s, rfl, HH⟩ trivial
  exact ⟨n, _, h1, h2, h3, hpost _ _ _ _ _ _ ⟨Cond.after_iff.mpr rfl, Cond.after_iff.mpr (eq_i res_at (Term.int_eval (1)) rfl), trivial⟩ ⟨hq.1, hq.2.1, hq.2.2.1, (hq.2.2.2.sift fun y hy => Or.inr (N y hy)).mono (by decide) (by decide)⟩⟩
theorem main_1_1 : Claimed_1_1 := comes_1 fun _ _ _ _ _ _ h hF => ⟨h.1, hF⟩
theorem main_1_2 : Claimed_1_2 := comes_1 fun _ _ _ _ _ _ h hF => ⟨h.2.1, hF⟩
end Jvm.Pilot.@@N@@
namespace Jvm.Pilot.@@N@@
open Jvm Jvm.ClassFile Sem Op Lib Jvm.Free Jvm.Stand Jvm.Pilot.@@N@@.Jvm.D
/-! MADE BY PROGRAM (witnessworld.py) out of the Statement's table words and the real class files: 17 classes; the members and pool entries that the words name. The judged class is class 1, her method 1. -/
namespace start1
open Jvm.ClassFile
def u (s : String) : CpInfo := .utf8 (stringToUtf16 s)
/-- a pool by its gaps: so many unusable entries, then the entry; so many at the end -/
def gap : Nat → List CpInfo → List CpInfo
  | 0, r => r
  | n + 1, r => .unusable :: gap n r
def poolList (es : List (Nat × CpInfo)) (last : Nat) : List CpInfo := es.foldr (fun e r => gap e.1 (e.2 :: r)) (gap last [])
def pool (es : List (Nat × CpInfo)) (last : Nat) : Array CpInfo := ⟨poolList es last⟩
def fileOf (pool : Array CpInfo) (this : Nat) (attrs : Array Attribute := #[]) (ms : Array MethodInfo := #[]) (fl : Nat := 33) (sup : Nat := 0) (ifs : Array Nat := #[]) (fds : Array FieldInfo := #[]) : ClassFile where
  minorVersion := 0
  majorVersion := 65
  constantPool := pool
  accessFlags := fl
  thisClass := this
  superClass := sup
  interfaces := ifs
  fields := fds
  methods := ms
  attributes := attrs
def plain (name : String) (sup : Option ClassId) : Class where
  name := name
  kind := .ordinary
  loader := none
  accessFlags := 33
  super := sup
  interfaces := #[]
  cf := none
  fields := #[]
  methods := #[]
  instanceTypes := #[]
  staticTypes := #[]
  resolved := #[]
  callSites := []
  init := .initialized
  statics := none
  mirror := none

def pool0 : Array CpInfo := pool [(5, u "<init>"), (0, u "()V"), (1, .class_ 10), (1, u "java/lang/Object")] 113

def k0m0 : Method := { name := "<init>", desc := "()V", sig := { parameters := [], returnType := none }, accessFlags := 1, code := none }
/-- java/lang/Object -/
def k0 : Class := { plain "java/lang/Object" none with
  accessFlags := 33
  interfaces := #[]
  cf := some (fileOf pool0 8 #[] #[{ accessFlags := 1, nameIndex := 5, descriptorIndex := 6, attributes := #[] }] 33 0 #[] #[])
  fields := #[]
  methods := #[k0m0]
  instanceTypes := #[]
  staticTypes := #[]
  resolved := Array.replicate 124 none
  statics := none }

def pool1 : Array CpInfo := pool [(2, .class_ 4), (1, u "java/lang/Object"), (0, u "<init>"), (0, u "()V"), (0, .string 8), (0, u "0123456789abcdef"), (0, .methodref 10 11), (0, .class_ 12), (0, .nameAndType 13 14), (0, u "java/lang/String"), (0, u "charAt"), (0, u "(I)C"), (0, .methodref 16 17), (0, .class_ 18), (0, .nameAndType 19 20), (0, u "com/example/svyazka/svyazka/http/Syntax"), (0, u "hex"), (0, u "(C)I"), (0, .string 22), (0, u "0123456789ABCDEF"), (0, .class_ 24), (0, u "com/example/svyazka/svyazka/http/SyntaxHexPinLaw"), (2, u "law"), (0, u "(II)Z")] 3

def k1m0 : Method := { name := "<init>", desc := "()V", sig := { parameters := [], returnType := none }, accessFlags := 1, code := none }
def k1c1 : Code := { maxStack := 3, maxLocals := 5, code := code, exceptionTable := #[], attributes := #[] }
def k1m1 : Method := { name := "law", desc := "(II)Z", sig := { parameters := [.int, .int], returnType := some .boolean }, accessFlags := 9, code := some k1c1 }
/-- com/example/svyazka/svyazka/http/SyntaxHexPinLaw -/
def k1 : Class := { plain "com/example/svyazka/svyazka/http/SyntaxHexPinLaw" (some 0) with
  accessFlags := 49
  interfaces := #[]
  cf := some (fileOf pool1 23 #[] #[{ accessFlags := 1, nameIndex := 5, descriptorIndex := 6, attributes := #[] }, { accessFlags := 9, nameIndex := 27, descriptorIndex := 28, attributes := #[] }] 49 2 #[] #[])
  fields := #[]
  methods := #[k1m0, k1m1]
  instanceTypes := #[]
  staticTypes := #[]
  resolved := Array.replicate 32 none
  statics := none }

def pool2 : Array CpInfo := pool [(1, .class_ 2), (0, u "java/io/Serializable"), (0, .class_ 4), (0, u "java/lang/Object")] 2

/-- java/io/Serializable -/
def k2 : Class := { plain "java/io/Serializable" (some 0) with
  accessFlags := 1537
  interfaces := #[]
  cf := some (fileOf pool2 1 #[] #[] 1537 3 #[] #[])
  fields := #[]
  methods := #[]
  instanceTypes := #[]
  staticTypes := #[]
  resolved := Array.replicate 7 none
  statics := none }

def pool3 : Array CpInfo := pool [(1, .class_ 2), (0, u "java/lang/Comparable"), (0, .class_ 4), (0, u "java/lang/Object")] 7

/-- java/lang/Comparable -/
def k3 : Class := { plain "java/lang/Comparable" (some 0) with
  accessFlags := 1537
  interfaces := #[]
  cf := some (fileOf pool3 1 #[] #[] 1537 3 #[] #[])
  fields := #[]
  methods := #[]
  instanceTypes := #[]
  staticTypes := #[]
  resolved := Array.replicate 12 none
  statics := none }

def pool4 : Array CpInfo := pool [(2, .class_ 4), (1, u "java/lang/CharSequence"), (42, .class_ 48), (0, u "java/lang/CharSequence$1CodePointIterator"), (10, .class_ 60), (0, u "java/lang/CharSequence$1CharIterator"), (5, .class_ 67), (0, u "java/lang/Object")] 63

/-- java/lang/CharSequence -/
def k4 : Class := { plain "java/lang/CharSequence" (some 0) with
  accessFlags := 1537
  interfaces := #[]
  cf := some (fileOf pool4 2 #[.nestMembers #[47, 59]] #[] 1537 66 #[] #[])
  fields := #[]
  methods := #[]
  instanceTypes := #[]
  staticTypes := #[]
  resolved := Array.replicate 131 none
  statics := none }

def pool5 : Array CpInfo := pool [(1, .class_ 2), (0, u "java/lang/constant/Constable"), (0, .class_ 4), (0, u "java/lang/Object")] 6

/-- java/lang/constant/Constable -/
def k5 : Class := { plain "java/lang/constant/Constable" (some 0) with
  accessFlags := 1537
  interfaces := #[]
  cf := some (fileOf pool5 1 #[] #[] 1537 3 #[] #[])
  fields := #[]
  methods := #[]
  instanceTypes := #[]
  staticTypes := #[]
  resolved := Array.replicate 11 none
  statics := none }

def pool6 : Array CpInfo := pool [(1, .class_ 2), (0, u "java/lang/constant/ConstantDesc"), (0, .class_ 4), (0, u "java/lang/Object")] 32

/-- java/lang/constant/ConstantDesc -/
def k6 : Class := { plain "java/lang/constant/ConstantDesc" (some 0) with
  accessFlags := 1537
  interfaces := #[]
  cf := some (fileOf pool6 1 #[] #[] 1537 3 #[] #[])
  fields := #[]
  methods := #[]
  instanceTypes := #[]
  staticTypes := #[]
  resolved := Array.replicate 37 none
  statics := none }

def pool7 : Array CpInfo := pool [(2, .class_ 4), (1, u "java/lang/Object"), (0, u "<init>"), (0, u "()V"), (2, .fieldref 10 11), (0, .class_ 12), (0, .nameAndType 13 14), (0, u "java/lang/String"), (0, u "value"), (0, u "[B"), (0, .fieldref 10 16), (0, .nameAndType 17 18), (0, u "coder"), (0, u "B"), (2, u "hash"), (0, u "I"), (2, u "hashIsZero"), (0, u "Z"), (11, .fieldref 10 39), (0, .nameAndType 40 26), (0, u "COMPACT_STRINGS"), (66, .class_ 109), (1, u "java/lang/StringLatin1"), (32, u "()Z"), (220, u "([BI)C"), (27, u "(II)V"), (35, u "(I)C"), (64, .methodref 10 493), (0, .nameAndType 494 142), (0, u "isLatin1"), (0, .methodref 107 496), (0, .nameAndType 497 363), (0, u "charAt"), (3, u "checkIndex"), (73, .class_ 576), (0, u "java/lang/CharSequence"), (22, u "CASE_INSENSITIVE_ORDER"), (0, u "Ljava/util/Comparator;"), (452, .fieldref 1054 1055), (0, .class_ 1056), (0, .nameAndType 1057 1058), (0, u "jdk/internal/util/Preconditions"), (0, u "SIOOBE_FORMATTER"), (0, u "Ljava/util/function/BiFunction;"), (0, .methodref 1054 1060), (0, .nameAndType 501 1061), (0, u "(IILjava/util/function/BiFunction;)I"), (39, u "serialPersistentFields"), (0, u "[Ljava/io/ObjectStreamField;"), (0, .class_ 1104), (0, u "java/lang/String$CaseInsensitiveComparator"), (1, .class_ 1107), (0, u "java/io/Serializable"), (0, .class_ 1109), (0, u "java/lang/Comparable"), (0, .class_ 1111), (0, u "java/lang/constant/Constable"), (0, .class_ 1113), (0, u "java/lang/constant/ConstantDesc"), (2, u "serialVersionUID"), (0, u "J"), (3, u "REPL"), (0, u "C"), (2, u "LATIN1"), (1, u "UTF16")] 323

def k7m0 : Method := { name := "<init>", desc := "()V", sig := { parameters := [], returnType := none }, accessFlags := 1, code := none }
def k7c1 : Code := { maxStack := 2, maxLocals := 2, code := jdk_42_method_56_code, exceptionTable := #[], attributes := #[] }
def k7m1 : Method := { name := "charAt", desc := "(I)C", sig := { parameters := [.int], returnType := some .char }, accessFlags := 1, code := some k7c1 }
def k7c2 : Code := { maxStack := 1, maxLocals := 1, code := jdk_42_method_154_code, exceptionTable := #[], attributes := #[] }
def k7m2 : Method := { name := "isLatin1", desc := "()Z", sig := { parameters := [], returnType := some .boolean }, accessFlags := 0, code := some k7c2 }
def k7c3 : Code := { maxStack := 3, maxLocals := 2, code := jdk_42_method_155_code, exceptionTable := #[], attributes := #[] }
def k7m3 : Method := { name := "checkIndex", desc := "(II)V", sig := { parameters := [.int, .int], returnType := none }, accessFlags := 8, code := some k7c3 }
/-- java/lang/String -/
def k7 : Class := { plain "java/lang/String" (some 0) with
  accessFlags := 49
  interfaces := #[2, 3, 4, 5, 6]
  cf := some (fileOf pool7 10 #[.nestMembers #[1103]] #[{ accessFlags := 1, nameIndex := 5, descriptorIndex := 6, attributes := #[] }, { accessFlags := 1, nameIndex := 497, descriptorIndex := 427, attributes := #[] }, { accessFlags := 0, nameIndex := 494, descriptorIndex := 142, attributes := #[] }, { accessFlags := 8, nameIndex := 501, descriptorIndex := 391, attributes := #[] }] 49 2 #[1106, 1108, 575, 1110, 1112] #[{ accessFlags := 18, nameIndex := 13, descriptorIndex := 14, attributes := #[] }, { accessFlags := 18, nameIndex := 17, descriptorIndex := 18, attributes := #[] }, { accessFlags := 2, nameIndex := 21, descriptorIndex := 22, attributes := #[] }, { accessFlags := 2, nameIndex := 25, descriptorIndex := 26, attributes := #[] }, { accessFlags := 26, nameIndex := 1116, descriptorIndex := 1117, attributes := #[] }, { accessFlags := 24, nameIndex := 40, descriptorIndex := 26, attributes := #[] }, { accessFlags := 26, nameIndex := 1101, descriptorIndex := 1102, attributes := #[] }, { accessFlags := 26, nameIndex := 1121, descriptorIndex := 1122, attributes := #[] }, { accessFlags := 25, nameIndex := 599, descriptorIndex := 600, attributes := #[] }, { accessFlags := 24, nameIndex := 1125, descriptorIndex := 18, attributes := #[] }, { accessFlags := 24, nameIndex := 1127, descriptorIndex := 18, attributes := #[] }])
  fields := #[{ name := "value", type := (.array .byte), accessFlags := 18, slot := 0, constantValue := 0 }, { name := "coder", type := .byte, accessFlags := 18, slot := 1, constantValue := 0 }, { name := "hash", type := .int, accessFlags := 2, slot := 2, constantValue := 0 }, { name := "hashIsZero", type := .boolean, accessFlags := 2, slot := 3, constantValue := 0 }, { name := "serialVersionUID", type := .long, accessFlags := 26, slot := 0, constantValue := 0 }, { name := "COMPACT_STRINGS", type := .boolean, accessFlags := 24, slot := 1, constantValue := 0 }, { name := "serialPersistentFields", type := (.array (.object "java/io/ObjectStreamField")), accessFlags := 26, slot := 2, constantValue := 0 }, { name := "REPL", type := .char, accessFlags := 26, slot := 3, constantValue := 0 }, { name := "CASE_INSENSITIVE_ORDER", type := (.object "java/util/Comparator"), accessFlags := 25, slot := 4, constantValue := 0 }, { name := "LATIN1", type := .byte, accessFlags := 24, slot := 5, constantValue := 0 }, { name := "UTF16", type := .byte, accessFlags := 24, slot := 6, constantValue := 0 }]
  methods := #[k7m0, k7m1, k7m2, k7m3]
  instanceTypes := #[(.array .byte), .byte, .int, .boolean]
  staticTypes := #[.long, .boolean, (.array (.object "java/io/ObjectStreamField")), .char, (.object "java/util/Comparator"), .byte, .byte]
  resolved := Array.replicate 1451 none
  statics := some 0 }

def pool8 : Array CpInfo := pool [(1, .class_ 2), (0, u "java/lang/String"), (1, .class_ 6), (1, u "java/lang/Object"), (0, u "<init>"), (0, u "()V"), (0, .methodref 1 10), (0, .nameAndType 11 12), (0, u "checkIndex"), (0, u "(II)V"), (1, .class_ 16), (1, u "java/lang/StringLatin1"), (36, u "([BI)C"), (67, u "$assertionsDisabled"), (0, u "Z"), (98, .class_ 223), (1, u "java/lang/StringLatin1$LinesSpliterator"), (28, u "charAt"), (137, .class_ 391), (0, u "java/lang/StringLatin1$CharsSpliterator")] 3

def k8m0 : Method := { name := "<init>", desc := "()V", sig := { parameters := [], returnType := none }, accessFlags := 0, code := none }
def k8c1 : Code := { maxStack := 2, maxLocals := 2, code := jdk_43_method_2_code, exceptionTable := #[], attributes := #[] }
def k8m1 : Method := { name := "charAt", desc := "([BI)C", sig := { parameters := [(.array .byte), .int], returnType := some .char }, accessFlags := 9, code := some k8c1 }
/-- java/lang/StringLatin1 -/
def k8 : Class := { plain "java/lang/StringLatin1" (some 0) with
  accessFlags := 48
  interfaces := #[]
  cf := some (fileOf pool8 14 #[.nestMembers #[390, 221]] #[{ accessFlags := 0, nameIndex := 7, descriptorIndex := 8, attributes := #[] }, { accessFlags := 9, nameIndex := 252, descriptorIndex := 53, attributes := #[] }] 48 4 #[] #[{ accessFlags := 4120, nameIndex := 121, descriptorIndex := 122, attributes := #[] }])
  fields := #[{ name := "$assertionsDisabled", type := .boolean, accessFlags := 4120, slot := 0, constantValue := 0 }]
  methods := #[k8m0, k8m1]
  instanceTypes := #[]
  staticTypes := #[.boolean]
  resolved := Array.replicate 395 none
  statics := none }

def pool9 : Array CpInfo := pool [(2, .class_ 4), (1, u "java/lang/Object"), (0, u "<init>"), (0, u "()V"), (17, .class_ 26), (1, u "jdk/internal/util/Preconditions"), (6, u "checkIndex"), (21, .class_ 56), (0, u "jdk/internal/util/Preconditions$4"), (57, .class_ 115), (0, u "jdk/internal/util/Preconditions$1"), (7, u "SIOOBE_FORMATTER"), (0, u "Ljava/util/function/BiFunction;"), (0, .class_ 126), (0, u "jdk/internal/util/Preconditions$2"), (3, u "AIOOBE_FORMATTER"), (0, .class_ 132), (0, u "jdk/internal/util/Preconditions$3"), (3, u "IOOBE_FORMATTER"), (41, u "(IILjava/util/function/BiFunction;)I")] 15

def k9m0 : Method := { name := "<init>", desc := "()V", sig := { parameters := [], returnType := none }, accessFlags := 1, code := none }
def k9c1 : Code := { maxStack := 3, maxLocals := 3, code := jdk_41_method_11_code, exceptionTable := #[], attributes := #[] }
def k9m1 : Method := { name := "checkIndex", desc := "(IILjava/util/function/BiFunction;)I", sig := { parameters := [.int, .int, (.object "java/util/function/BiFunction")], returnType := some .int }, accessFlags := 9, code := some k9c1 }
/-- jdk/internal/util/Preconditions -/
def k9 : Class := { plain "jdk/internal/util/Preconditions" (some 0) with
  accessFlags := 33
  interfaces := #[]
  cf := some (fileOf pool9 24 #[.nestMembers #[55, 131, 125, 114]] #[{ accessFlags := 1, nameIndex := 5, descriptorIndex := 6, attributes := #[] }, { accessFlags := 9, nameIndex := 33, descriptorIndex := 178, attributes := #[] }] 33 2 #[] #[{ accessFlags := 25, nameIndex := 123, descriptorIndex := 124, attributes := #[] }, { accessFlags := 25, nameIndex := 130, descriptorIndex := 124, attributes := #[] }, { accessFlags := 25, nameIndex := 136, descriptorIndex := 124, attributes := #[] }])
  fields := #[{ name := "SIOOBE_FORMATTER", type := (.object "java/util/function/BiFunction"), accessFlags := 25, slot := 0, constantValue := 0 }, { name := "AIOOBE_FORMATTER", type := (.object "java/util/function/BiFunction"), accessFlags := 25, slot := 1, constantValue := 0 }, { name := "IOOBE_FORMATTER", type := (.object "java/util/function/BiFunction"), accessFlags := 25, slot := 2, constantValue := 0 }]
  methods := #[k9m0, k9m1]
  instanceTypes := #[]
  staticTypes := #[(.object "java/util/function/BiFunction"), (.object "java/util/function/BiFunction"), (.object "java/util/function/BiFunction")]
  resolved := Array.replicate 194 none
  statics := some 1 }

def pool10 : Array CpInfo := pool [(1, .class_ 2), (0, u "com/example/svyazka/svyazka/http/Syntax"), (1, .class_ 6), (1, u "java/lang/Object"), (0, u "<init>"), (0, u "()V"), (71, u "hex"), (0, u "(C)I"), (73, u "TOKEN_MARKS"), (0, u "Ljava/lang/String;"), (1, u "NAME_MARKS"), (0, u "TARGET_MARKS")] 14

def k10m0 : Method := { name := "<init>", desc := "()V", sig := { parameters := [], returnType := none }, accessFlags := 2, code := none }
def k10c1 : Code := { maxStack := 2, maxLocals := 1, code := prog_27_method_7_code, exceptionTable := #[], attributes := #[] }
def k10m1 : Method := { name := "hex", desc := "(C)I", sig := { parameters := [.char], returnType := some .int }, accessFlags := 8, code := some k10c1 }
/-- com/example/svyazka/svyazka/http/Syntax -/
def k10 : Class := { plain "com/example/svyazka/svyazka/http/Syntax" (some 0) with
  accessFlags := 48
  interfaces := #[]
  cf := some (fileOf pool10 1 #[] #[{ accessFlags := 2, nameIndex := 7, descriptorIndex := 8, attributes := #[] }, { accessFlags := 8, nameIndex := 80, descriptorIndex := 81, attributes := #[] }] 48 4 #[] #[{ accessFlags := 26, nameIndex := 155, descriptorIndex := 156, attributes := #[] }, { accessFlags := 26, nameIndex := 158, descriptorIndex := 156, attributes := #[] }, { accessFlags := 26, nameIndex := 159, descriptorIndex := 156, attributes := #[] }])
  fields := #[{ name := "TOKEN_MARKS", type := (.object "java/lang/String"), accessFlags := 26, slot := 0, constantValue := 0 }, { name := "NAME_MARKS", type := (.object "java/lang/String"), accessFlags := 26, slot := 1, constantValue := 0 }, { name := "TARGET_MARKS", type := (.object "java/lang/String"), accessFlags := 26, slot := 2, constantValue := 0 }]
  methods := #[k10m0, k10m1]
  instanceTypes := #[]
  staticTypes := #[(.object "java/lang/String"), (.object "java/lang/String"), (.object "java/lang/String")]
  resolved := Array.replicate 174 none
  statics := none }

def pool11 : Array CpInfo := pool [(9, u "<init>"), (6, .class_ 18), (1, u "java/lang/Object"), (0, u "()V"), (1, .class_ 23), (1, u "jdk/internal/util/ArraysSupport"), (0, u "LOG2_ARRAY_LONG_INDEX_SCALE"), (0, u "I"), (2, u "U"), (0, u "Ljdk/internal/misc/Unsafe;"), (8, u "BIG_ENDIAN"), (0, u "Z"), (8, u "LOG2_BYTE_BIT_SIZE"), (4, u "LOG2_ARRAY_INT_INDEX_SCALE"), (54, u "JLA"), (0, u "Ljdk/internal/access/JavaLangAccess;"), (11, u "LOG2_ARRAY_BOOLEAN_INDEX_SCALE"), (9, u "LOG2_ARRAY_BYTE_INDEX_SCALE"), (5, u "LOG2_ARRAY_CHAR_INDEX_SCALE"), (5, u "LOG2_ARRAY_SHORT_INDEX_SCALE"), (18, u "LOG2_ARRAY_FLOAT_INDEX_SCALE"), (24, u "LOG2_ARRAY_DOUBLE_INDEX_SCALE"), (89, u "T_BOOLEAN"), (2, u "T_CHAR"), (1, u "T_FLOAT"), (1, u "T_DOUBLE"), (1, u "T_BYTE"), (1, u "T_SHORT"), (1, u "T_INT"), (1, u "T_LONG"), (1, u "SOFT_MAX_ARRAY_LENGTH")] 83

def k11m0 : Method := { name := "<init>", desc := "()V", sig := { parameters := [], returnType := none }, accessFlags := 2, code := none }
/-- jdk/internal/util/ArraysSupport -/
def k11 : Class := { plain "jdk/internal/util/ArraysSupport" (some 0) with
  accessFlags := 33
  interfaces := #[]
  cf := some (fileOf pool11 21 #[] #[{ accessFlags := 2, nameIndex := 9, descriptorIndex := 19, attributes := #[] }] 33 16 #[] #[{ accessFlags := 24, nameIndex := 28, descriptorIndex := 29, attributes := #[] }, { accessFlags := 26, nameIndex := 38, descriptorIndex := 39, attributes := #[] }, { accessFlags := 25, nameIndex := 121, descriptorIndex := 25, attributes := #[] }, { accessFlags := 25, nameIndex := 131, descriptorIndex := 25, attributes := #[] }, { accessFlags := 25, nameIndex := 137, descriptorIndex := 25, attributes := #[] }, { accessFlags := 25, nameIndex := 143, descriptorIndex := 25, attributes := #[] }, { accessFlags := 25, nameIndex := 53, descriptorIndex := 25, attributes := #[] }, { accessFlags := 25, nameIndex := 24, descriptorIndex := 25, attributes := #[] }, { accessFlags := 25, nameIndex := 162, descriptorIndex := 25, attributes := #[] }, { accessFlags := 25, nameIndex := 187, descriptorIndex := 25, attributes := #[] }, { accessFlags := 26, nameIndex := 48, descriptorIndex := 25, attributes := #[] }, { accessFlags := 25, nameIndex := 277, descriptorIndex := 25, attributes := #[] }, { accessFlags := 25, nameIndex := 280, descriptorIndex := 25, attributes := #[] }, { accessFlags := 25, nameIndex := 282, descriptorIndex := 25, attributes := #[] }, { accessFlags := 25, nameIndex := 284, descriptorIndex := 25, attributes := #[] }, { accessFlags := 25, nameIndex := 286, descriptorIndex := 25, attributes := #[] }, { accessFlags := 25, nameIndex := 288, descriptorIndex := 25, attributes := #[] }, { accessFlags := 25, nameIndex := 290, descriptorIndex := 25, attributes := #[] }, { accessFlags := 25, nameIndex := 292, descriptorIndex := 25, attributes := #[] }, { accessFlags := 26, nameIndex := 108, descriptorIndex := 109, attributes := #[] }, { accessFlags := 25, nameIndex := 294, descriptorIndex := 25, attributes := #[] }])
  fields := #[{ name := "U", type := (.object "jdk/internal/misc/Unsafe"), accessFlags := 24, slot := 0, constantValue := 0 }, { name := "BIG_ENDIAN", type := .boolean, accessFlags := 26, slot := 1, constantValue := 0 }, { name := "LOG2_ARRAY_BOOLEAN_INDEX_SCALE", type := .int, accessFlags := 25, slot := 2, constantValue := 0 }, { name := "LOG2_ARRAY_BYTE_INDEX_SCALE", type := .int, accessFlags := 25, slot := 3, constantValue := 0 }, { name := "LOG2_ARRAY_CHAR_INDEX_SCALE", type := .int, accessFlags := 25, slot := 4, constantValue := 0 }, { name := "LOG2_ARRAY_SHORT_INDEX_SCALE", type := .int, accessFlags := 25, slot := 5, constantValue := 0 }, { name := "LOG2_ARRAY_INT_INDEX_SCALE", type := .int, accessFlags := 25, slot := 6, constantValue := 0 }, { name := "LOG2_ARRAY_LONG_INDEX_SCALE", type := .int, accessFlags := 25, slot := 7, constantValue := 0 }, { name := "LOG2_ARRAY_FLOAT_INDEX_SCALE", type := .int, accessFlags := 25, slot := 8, constantValue := 0 }, { name := "LOG2_ARRAY_DOUBLE_INDEX_SCALE", type := .int, accessFlags := 25, slot := 9, constantValue := 0 }, { name := "LOG2_BYTE_BIT_SIZE", type := .int, accessFlags := 26, slot := 10, constantValue := 0 }, { name := "T_BOOLEAN", type := .int, accessFlags := 25, slot := 11, constantValue := 0 }, { name := "T_CHAR", type := .int, accessFlags := 25, slot := 12, constantValue := 0 }, { name := "T_FLOAT", type := .int, accessFlags := 25, slot := 13, constantValue := 0 }, { name := "T_DOUBLE", type := .int, accessFlags := 25, slot := 14, constantValue := 0 }, { name := "T_BYTE", type := .int, accessFlags := 25, slot := 15, constantValue := 0 }, { name := "T_SHORT", type := .int, accessFlags := 25, slot := 16, constantValue := 0 }, { name := "T_INT", type := .int, accessFlags := 25, slot := 17, constantValue := 0 }, { name := "T_LONG", type := .int, accessFlags := 25, slot := 18, constantValue := 0 }, { name := "JLA", type := (.object "jdk/internal/access/JavaLangAccess"), accessFlags := 26, slot := 19, constantValue := 0 }, { name := "SOFT_MAX_ARRAY_LENGTH", type := .int, accessFlags := 25, slot := 20, constantValue := 0 }]
  methods := #[k11m0]
  instanceTypes := #[]
  staticTypes := #[(.object "jdk/internal/misc/Unsafe"), .boolean, .int, .int, .int, .int, .int, .int, .int, .int, .int, .int, .int, .int, .int, .int, .int, .int, .int, (.object "jdk/internal/access/JavaLangAccess"), .int]
  resolved := Array.replicate 378 none
  statics := none }

def pool12 : Array CpInfo := pool [(1, u "java/lang/Cloneable"), (0, .class_ 1), (0, u "java/lang/Object"), (0, .class_ 3)] 3

/-- java/lang/Cloneable -/
def k12 : Class := { plain "java/lang/Cloneable" (some 0) with
  accessFlags := 1537
  interfaces := #[]
  cf := some (fileOf pool12 2 #[] #[] 1537 4 #[] #[])
  fields := #[]
  methods := #[]
  instanceTypes := #[]
  staticTypes := #[]
  resolved := Array.replicate 8 none
  statics := none }

/-- the primitive byte -/
def k13 : Class := { plain "byte" none with kind := .primitive 'B', accessFlags := 0x411 }
/-- [B -/
def k14 : Class := { plain "[B" (some 0) with kind := .array 13 .byte, interfaces := #[12, 2], accessFlags := 1041 }

/-- the primitive int -/
def k15 : Class := { plain "int" none with kind := .primitive 'I', accessFlags := 0x411 }
/-- [I -/
def k16 : Class := { plain "[I" (some 0) with kind := .array 15 .int, interfaces := #[12, 2], accessFlags := 1041 }

def heap : Heap := #[{ cls := 7, slots := #[.long 0, .int 1, .null, .int 0, .null, .int 0, .int 0], vm := .statics 7 },
  { cls := 9, slots := #[.null, .null, .null], vm := .statics 9 }]
def classes : Array Class := #[k0, k1, k2, k3, k4, k5, k6, k7, k8, k9, k10, k11, k12, k13, k14, k15, k16]
def interned : List (Array UInt16 × Addr) := []
def slotsUsed : Nat := 10
def theMethod : MethodId := ⟨1, 1⟩
def args0 : Array Value := #[.int 65, .int 5]
def aboutOver (below : List Frame) : State where
  vm := { classes := classes, interned := interned.toArray }
  heap := heap
  slotsUsed := slotsUsed
  threads := #[{ frames := .invoking theMethod args0 :: below }]
def below0 : List Frame := [.native { method := ⟨0, 0⟩, args := #[] }]
def about1 : State := aboutOver below0
def p0 : Program := .bare "" "" ""
def e0 : Env := launch0.env 0 0 0
theorem w_frames : about1.frames = Frame.invoking theMethod args0 :: below0 := rfl
set_option maxRecDepth 65536 in
theorem w_args : argsFit about1.vm theMethod args0 = true := by decide +kernel
set_option maxRecDepth 65536 in
theorem w_heap : heapFits about1 = true := by decide +kernel
set_option maxRecDepth 65536 in
theorem w_runnable : about1.curStatus? = some .runnable := by decide +kernel
set_option maxRecDepth 65536 in
theorem w_alone : about1.alone = true := by decide +kernel
set_option maxRecDepth 65536 in
theorem w_named : about1.methodNamed? x = some theMethod := by decide +kernel
set_option maxRecDepth 65536 in
theorem w_hears : about1.hears theMethod below0 = true := by decide +kernel
set_option maxRecDepth 65536 in
theorem w_ripe : about1.ripe theMethod args0 below0 = true := by decide +kernel
theorem w_running : about1.status = .running := rfl
set_option maxRecDepth 65536 in
theorem w_room : about1.hasRoom e0.platform room_1 = true :=
  launch0.hasRoom_least _ room_1 (by decide +kernel) (by decide +kernel) (by decide +kernel) (by decide +kernel) (by decide +kernel) (by decide +kernel)
theorem allAtoms_all (ts : List Jvm.Cond) (a : Array Jvm.Value) (st : Jvm.State) : (allAtoms ts).before a st = ts.all (fun c => c.before a st) := by
  induction ts with
  | nil => rfl
  | cons c t ih =>
    show (Jvm.Cond.and c (allAtoms t)).before a st = _
    rw [Jvm.Cond.before_and, ih, List.all_cons]
def words1 : List Jvm.Cond := Jvm.Cond.code x code maxLocals ret :: tables_1
/-- a 'code' word, met by the world's own term for the bytes: nothing is compared byte by byte -/
theorem code_word {y : MethodName} {bytes : ByteArray} {mx : Nat} {rt : Option FieldType} {a : Array Value} {s : State} {m : MethodId} {meth : Method} {c : Code} (h1 : s.methodNamed? y = some m) (h2 : s.vm.method? m = some meth) (h3 : meth.code = some c) (h4 : c.code = bytes)
    (h5 : (c.maxLocals == mx && c.exceptionTable.isEmpty && decide (c.maxStack ≤ mostOperands) && decide (meth.sig.returnType = rt) && !meth.locks && decide (parseMethodDescriptor y.desc = some meth.sig)) = true) : (Jvm.Cond.code y bytes mx rt).before a s = true := by
  simp only [Bool.and_eq_true, beq_iff_eq, Bool.not_eq_true', decide_eq_true_eq] at h5
  obtain ⟨⟨⟨⟨⟨g1, g2⟩, g3⟩, g4⟩, g5⟩, g6⟩ := h5
  simp [Cond.before, Cond.holds, Cond.value, h1, h2, h3, h4, g1, g2, g3, g4, g5, g6]
def isCode : Jvm.Cond → Bool
  | .code _ _ _ _ => true
  | _ => false
theorem all_split {L : List Jvm.Cond} {P : Jvm.Cond → Bool} (h1 : L.all (fun c => isCode c || P c) = true) (h2 : ∀ c ∈ L.filter isCode, P c = true) : L.all P = true := by
  refine List.all_eq_true.mpr fun c hc => ?_
  have h := List.all_eq_true.mp h1 c hc
  rcases Bool.eq_false_or_eq_true (isCode c) with hi | hi
  · exact h2 c (List.mem_filter.mpr ⟨hc, hi⟩)
  · simpa [hi] using h
set_option maxRecDepth 65536 in
theorem w_c0 : (Jvm.Cond.code x code maxLocals ret).before args0 about1 = true := code_word (m := ⟨1, 1⟩) (meth := k1m1) (c := k1c1) (by decide +kernel) rfl rfl rfl (by decide +kernel)
set_option maxRecDepth 65536 in
theorem w_c1 : (Jvm.Cond.code ({ cls := "java/lang/String", name := "charAt", desc := "(I)C" } : Jvm.MethodName) jdk_42_method_56_code (2 : Nat) (Option.some Jvm.ClassFile.FieldType.char)).before args0 about1 = true := code_word (m := ⟨7, 1⟩) (meth := k7m1) (c := k7c1) (by decide +kernel) rfl rfl rfl (by decide +kernel)
set_option maxRecDepth 65536 in
theorem w_c2 : (Jvm.Cond.code ({ cls := "java/lang/String", name := "isLatin1", desc := "()Z" } : Jvm.MethodName) jdk_42_method_154_code (1 : Nat) (Option.some Jvm.ClassFile.FieldType.boolean)).before args0 about1 = true := code_word (m := ⟨7, 2⟩) (meth := k7m2) (c := k7c2) (by decide +kernel) rfl rfl rfl (by decide +kernel)
set_option maxRecDepth 65536 in
theorem w_c3 : (Jvm.Cond.code ({ cls := "java/lang/StringLatin1", name := "charAt", desc := "([BI)C" } : Jvm.MethodName) jdk_43_method_2_code (2 : Nat) (Option.some Jvm.ClassFile.FieldType.char)).before args0 about1 = true := code_word (m := ⟨8, 1⟩) (meth := k8m1) (c := k8c1) (by decide +kernel) rfl rfl rfl (by decide +kernel)
set_option maxRecDepth 65536 in
theorem w_c4 : (Jvm.Cond.code ({ cls := "java/lang/String", name := "checkIndex", desc := "(II)V" } : Jvm.MethodName) jdk_42_method_155_code (2 : Nat) (Option.none : Option Jvm.ClassFile.FieldType)).before args0 about1 = true := code_word (m := ⟨7, 3⟩) (meth := k7m3) (c := k7c3) (by decide +kernel) rfl rfl rfl (by decide +kernel)
set_option maxRecDepth 65536 in
theorem w_c5 : (Jvm.Cond.code ({ cls := "jdk/internal/util/Preconditions", name := "checkIndex", desc := "(IILjava/util/function/BiFunction;)I" } : Jvm.MethodName) jdk_41_method_11_code (3 : Nat) (Option.some Jvm.ClassFile.FieldType.int)).before args0 about1 = true := code_word (m := ⟨9, 1⟩) (meth := k9m1) (c := k9c1) (by decide +kernel) rfl rfl rfl (by decide +kernel)
set_option maxRecDepth 65536 in
theorem w_c6 : (Jvm.Cond.code ({ cls := "com/example/svyazka/svyazka/http/Syntax", name := "hex", desc := "(C)I" } : Jvm.MethodName) prog_27_method_7_code (1 : Nat) (Option.some Jvm.ClassFile.FieldType.int)).before args0 about1 = true := code_word (m := ⟨10, 1⟩) (meth := k10m1) (c := k10c1) (by decide +kernel) rfl rfl rfl (by decide +kernel)
def codes1 : List Jvm.Cond := [Jvm.Cond.code x code maxLocals ret, Jvm.Cond.code ({ cls := "java/lang/String", name := "charAt", desc := "(I)C" } : Jvm.MethodName) jdk_42_method_56_code (2 : Nat) (Option.some Jvm.ClassFile.FieldType.char), Jvm.Cond.code ({ cls := "java/lang/String", name := "isLatin1", desc := "()Z" } : Jvm.MethodName) jdk_42_method_154_code (1 : Nat) (Option.some Jvm.ClassFile.FieldType.boolean), Jvm.Cond.code ({ cls := "java/lang/StringLatin1", name := "charAt", desc := "([BI)C" } : Jvm.MethodName) jdk_43_method_2_code (2 : Nat) (Option.some Jvm.ClassFile.FieldType.char), Jvm.Cond.code ({ cls := "java/lang/String", name := "checkIndex", desc := "(II)V" } : Jvm.MethodName) jdk_42_method_155_code (2 : Nat) (Option.none : Option Jvm.ClassFile.FieldType), Jvm.Cond.code ({ cls := "jdk/internal/util/Preconditions", name := "checkIndex", desc := "(IILjava/util/function/BiFunction;)I" } : Jvm.MethodName) jdk_41_method_11_code (3 : Nat) (Option.some Jvm.ClassFile.FieldType.int), Jvm.Cond.code ({ cls := "com/example/svyazka/svyazka/http/Syntax", name := "hex", desc := "(C)I" } : Jvm.MethodName) prog_27_method_7_code (1 : Nat) (Option.some Jvm.ClassFile.FieldType.int)]
set_option maxRecDepth 65536 in
theorem codes_eq : words1.filter isCode = codes1 := rfl
theorem w_codes : ∀ c ∈ words1.filter isCode, c.before args0 about1 = true := by
  rw [codes_eq]
  intro c hc
  simp only [codes1, List.mem_cons, List.not_mem_nil, or_false] at hc
  rcases hc with rfl | rfl | rfl | rfl | rfl | rfl | rfl
  · exact w_c0
  · exact w_c1
  · exact w_c2
  · exact w_c3
  · exact w_c4
  · exact w_c5
  · exact w_c6
set_option maxRecDepth 65536 in
theorem w_t1 : (words1.take 24).all (fun c => isCode c || c.before args0 about1) = true := by decide +kernel
set_option maxRecDepth 65536 in
theorem w_t2 : (words1.drop 24).all (fun c => isCode c || c.before args0 about1) = true := by decide +kernel
theorem w_tables : (allAtoms (Jvm.Cond.code x code maxLocals ret :: tables_1)).before args0 about1 = true := by
  rw [allAtoms_all]
  show words1.all (fun c => c.before args0 about1) = true
  refine all_split ?_ w_codes
  rw [← List.take_append_drop 24 words1, List.all_append, w_t1, w_t2]
  rfl
set_option maxRecDepth 65536 in
theorem w_rest : rest_1_c.before args0 about1 = true := by decide +kernel
set_option maxRecDepth 65536 in
theorem w_case : (Jvm.Cond.and given_1 narrow_1).before args0 about1 = true := by decide +kernel
set_option maxRecDepth 65536 in
theorem w_consts : constsHeld consts_1 about1 := Jvm.Lit.constsHeldB_iff.mp (by decide +kernel)
theorem w_applies : (headSpec (Jvm.Cond.code x code maxLocals ret :: tables_1) room_1).applies x e0.platform about1 = true :=
  (Spec.applies_iff w_frames).mpr ⟨w_running, w_runnable, w_alone, w_named, w_hears, w_ripe, w_room, w_tables⟩
theorem atStart : AtStart classFile x code maxLocals ret World_1 tables_1 room_1 Calls_1 rest_1 Pre_1 launch0 p0 e0 about1 theMethod args0 below0 :=
  ⟨lists_1, trivial, launch0.admits_env _ _ _, launch0.least_env, fairChoices_fair.cas, fairChoices_fair.clock, w_frames, w_args, w_heap, w_applies, ⟨w_consts, trivial⟩, w_rest, w_case⟩
end start1
theorem witness_1 : WitnessClaimed_1 := ⟨start1.p0, start1.e0, start1.about1, start1.theMethod, start1.args0, start1.below0, start1.atStart⟩
end Jvm.Pilot.@@N@@
