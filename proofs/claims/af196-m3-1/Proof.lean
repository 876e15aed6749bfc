import JvmDerived
import JvmDerived.Pilot.@@N@@Statement
import JvmDerived.Pilot.@@N@@Code
set_option linter.unusedVariables false
set_option linter.unusedSimpArgs false
@@BLOCK:NumsL.lean.txt@@
namespace Jvm.Pilot.@@N@@
open Jvm Jvm.ClassFile Sem Op Lib Jvm.Free Jvm.Stand Jvm.LawKit Jvm.RoadKit Bundle Jvm.Pilot.@@N@@.Jvm.D
section Own
variable {p : Program} {l : Launch} {e : Env} {R : Room} {s : State} {m : MethodId} {args : Array Value} {below : List Frame} {meth : Method} {c : Code} {T : State} {locs : List Loc} {cells slots : Nat} {Q : Option Value → Heap → List Loc → Prop} {kc ks : Nat} {G : State → Outcome → State → List Loc → Nat → Nat → Prop}
/-- the run from U returns; Q says of what it returned, of the heap and of the places written; kc, ks: how much it may have made -/
def own_Ends (p : Program) (e : Env) (below : List Frame) (s : State) (G : State → Outcome → State → List Loc → Nat → Nat → Prop) (Q : Option Value → Heap → List Loc → Prop) (kc ks : Nat) (U : State) : Prop :=
  ∃ s₂ o, Steps p.tables e below U s₂ ∧ s₂.status = .running ∧ Ended s₂ below o ∧ ∃ v L, o = .returned v ∧ Q v s₂.heap L ∧ G s o s₂ L kc ks
theorem own_of {U U' : State} (h : ∀ t, Steps p.tables e below U' t → Steps p.tables e below U t) (k : own_Ends p e below s G Q kc ks U') : own_Ends p e below s G Q kc ks U := by
  obtain ⟨s₂, o, h1, r⟩ := k
  exact ⟨s₂, o, h _ h1, r⟩
theorem own_eq {U U' : State} (h : U = U') (k : own_Ends p e below s G Q kc ks U') : own_Ends p e below s G Q kc ks U := h ▸ k
theorem own_retN (X : Stand p l e R s m args below meth c T locs cells slots) (hx : p.tables.exec = Jvm.exec) (hlk : meth.locks = false) {pc : Nat} {Ls : Array Slot} {z : Int32} {t : FieldType} {rest : List Value} (hret : meth.sig.returnType = some t) (ht : t = .boolean ∨ t = .byte ∨ t = .char ∨ t = .short)
    (hd : decode c.code pc = .ok (.ireturn, 1)) (hc : cells ≤ kc) (hs : slots ≤ ks) (hq : Q (some (.int (nar t z))) T.heap locs) : own_Ends p e below s FrameEnd Q kc ks (T.setTop (mkF m pc Ls (.int z :: rest))) := by
  obtain ⟨fs, hr, hrun, hended, hW, hsame⟩ := X.leave (v := some (.int (nar t z))) (fun h => by rw [hret] at h; cases h) hlk
  exact ⟨_, _, retN X hx hret ht hd hr, hrun, hended, _, _, rfl, hq, ⟨_, rfl⟩, hW, hsame.mono hc hs⟩
theorem own_retI (X : Stand p l e R s m args below meth c T locs cells slots) (hx : p.tables.exec = Jvm.exec) (hlk : meth.locks = false) {pc : Nat} {Ls : Array Slot} {z : Int32} {rest : List Value} (hret : meth.sig.returnType = some .int)
    (hd : decode c.code pc = .ok (.ireturn, 1)) (hc : cells ≤ kc) (hs : slots ≤ ks) (hq : Q (some (.int z)) T.heap locs) : own_Ends p e below s FrameEnd Q kc ks (T.setTop (mkF m pc Ls (.int z :: rest))) := by
  obtain ⟨fs, hr, hrun, hended, hW, hsame⟩ := X.leave (v := some (.int z)) (fun h => by rw [hret] at h; cases h) hlk
  exact ⟨_, _, retOut X hx hret rfl (Or.inl ⟨rfl, Or.inl rfl, _, rfl⟩) hd hr, hrun, hended, _, _, rfl, hq, ⟨_, rfl⟩, hW, hsame.mono hc hs⟩
theorem own_retL (X : Stand p l e R s m args below meth c T locs cells slots) (hx : p.tables.exec = Jvm.exec) (hlk : meth.locks = false) {pc : Nat} {Ls : Array Slot} {z : Int64} {rest : List Value} (hret : meth.sig.returnType = some .long)
    (hd : decode c.code pc = .ok (.lreturn, 1)) (hc : cells ≤ kc) (hs : slots ≤ ks) (hq : Q (some (.long z)) T.heap locs) : own_Ends p e below s FrameEnd Q kc ks (T.setTop (mkF m pc Ls (.long z :: rest))) := by
  obtain ⟨fs, hr, hrun, hended, hW, hsame⟩ := X.leave (v := some (.long z)) (fun h => by rw [hret] at h; cases h) hlk
  exact ⟨_, _, retOut X hx hret rfl (Or.inr (Or.inl ⟨rfl, rfl, _, rfl⟩)) hd hr, hrun, hended, _, _, rfl, hq, ⟨_, rfl⟩, hW, hsame.mono hc hs⟩
theorem own_retA (X : Stand p l e R s m args below meth c T locs cells slots) (hx : p.tables.exec = Jvm.exec) (hlk : meth.locks = false) {pc : Nat} {Ls : Array Slot} {w : Value} {t : FieldType} {rest : List Value} (hret : meth.sig.returnType = some t) (ht : t.isReference = true) (hw : w.isRef = true)
    (hd : decode c.code pc = .ok (.areturn, 1)) (hc : cells ≤ kc) (hs : slots ≤ ks) (hq : Q (some w) T.heap locs) : own_Ends p e below s FrameEnd Q kc ks (T.setTop (mkF m pc Ls (w :: rest))) := by
  obtain ⟨fs, hr, hrun, hended, hW, hsame⟩ := X.leave (v := some w) (fun h => by rw [hret] at h; cases h) hlk
  have hn : narrow t w = w := by cases t <;> first | (cases ht; done) | rfl | (cases w <;> rfl)
  exact ⟨_, _, retOut X hx hret hn (Or.inr (Or.inr (Or.inr (Or.inr ⟨rfl, ht, hw⟩)))) hd hr, hrun, hended, _, _, rfl, hq, ⟨_, rfl⟩, hW, hsame.mono hc hs⟩
theorem own_ret0 (X : Stand p l e R s m args below meth c T locs cells slots) (hx : p.tables.exec = Jvm.exec) (hlk : meth.locks = false) {pc : Nat} {Ls : Array Slot} (hret : meth.sig.returnType = none)
    (hd : decode c.code pc = .ok (.return_, 1)) (hc : cells ≤ kc) (hs : slots ≤ ks) (hq : Q none T.heap locs) : own_Ends p e below s FrameEnd Q kc ks (T.setTop (mkF m pc Ls [])) := by
  obtain ⟨fs, hr, hrun, hended, hW, hsame⟩ := X.leave (v := none) (fun _ => rfl) hlk
  exact ⟨_, _, X.returnOut hx hret hd hr, hrun, hended, _, _, rfl, hq, ⟨_, rfl⟩, hW, hsame.mono hc hs⟩
variable {vm₁ : Vm} {nS : Nat}
theorem own_monoW {t : State} {o : Outcome} {L : List Loc} {k n k' n' : Nat} (h : ReturnedEndW s o t L k n) (hk : k ≤ k') (hn : n ≤ n') : ReturnedEndW s o t L k' n' := ⟨h.1, h.2.1, h.2.2.1, h.2.2.2.mono hk hn⟩
theorem own_retNW (X : Stand p l e R (s.setVm vm₁) m args below meth c T locs cells slots) (hx : p.tables.exec = Jvm.exec) (hlk : meth.locks = false) (hS : s.Since vm₁ nS) (hk : nS ≤ T.heap.size) {pc : Nat} {Ls : Array Slot} {z : Int32} {t : FieldType} {rest : List Value} (hret : meth.sig.returnType = some t) (ht : t = .boolean ∨ t = .byte ∨ t = .char ∨ t = .short)
    (hd : decode c.code pc = .ok (.ireturn, 1)) (hc : cells ≤ kc) (hs : slots ≤ ks) (hq : Q (some (.int (nar t z))) T.heap locs) : own_Ends p e below s ReturnedEndW Q kc ks (T.setTop (mkF m pc Ls (.int z :: rest))) := by
  obtain ⟨fs, hr, hrun, hended, hW⟩ := X.leaveW hS hk (v := some (.int (nar t z))) (fun h => by rw [hret] at h; cases h) hlk
  exact ⟨_, _, retN X hx hret ht hd hr, hrun, hended, _, _, rfl, hq, own_monoW hW hc hs⟩
theorem own_retIW (X : Stand p l e R (s.setVm vm₁) m args below meth c T locs cells slots) (hx : p.tables.exec = Jvm.exec) (hlk : meth.locks = false) (hS : s.Since vm₁ nS) (hk : nS ≤ T.heap.size) {pc : Nat} {Ls : Array Slot} {z : Int32} {rest : List Value} (hret : meth.sig.returnType = some .int)
    (hd : decode c.code pc = .ok (.ireturn, 1)) (hc : cells ≤ kc) (hs : slots ≤ ks) (hq : Q (some (.int z)) T.heap locs) : own_Ends p e below s ReturnedEndW Q kc ks (T.setTop (mkF m pc Ls (.int z :: rest))) := by
  obtain ⟨fs, hr, hrun, hended, hW⟩ := X.leaveW hS hk (v := some (.int z)) (fun h => by rw [hret] at h; cases h) hlk
  exact ⟨_, _, retOut X hx hret rfl (Or.inl ⟨rfl, Or.inl rfl, _, rfl⟩) hd hr, hrun, hended, _, _, rfl, hq, own_monoW hW hc hs⟩
theorem own_retAW (X : Stand p l e R (s.setVm vm₁) m args below meth c T locs cells slots) (hx : p.tables.exec = Jvm.exec) (hlk : meth.locks = false) (hS : s.Since vm₁ nS) (hk : nS ≤ T.heap.size) {pc : Nat} {Ls : Array Slot} {w : Value} {t : FieldType} {rest : List Value} (hret : meth.sig.returnType = some t) (ht : t.isReference = true) (hw : w.isRef = true)
    (hd : decode c.code pc = .ok (.areturn, 1)) (hc : cells ≤ kc) (hs : slots ≤ ks) (hq : Q (some w) T.heap locs) : own_Ends p e below s ReturnedEndW Q kc ks (T.setTop (mkF m pc Ls (w :: rest))) := by
  obtain ⟨fs, hr, hrun, hended, hW⟩ := X.leaveW hS hk (v := some w) (fun h => by rw [hret] at h; cases h) hlk
  have hn : narrow t w = w := by cases t <;> first | (cases ht; done) | rfl | (cases w <;> rfl)
  exact ⟨_, _, retOut X hx hret hn (Or.inr (Or.inr (Or.inr (Or.inr ⟨rfl, ht, hw⟩)))) hd hr, hrun, hended, _, _, rfl, hq, own_monoW hW hc hs⟩
theorem own_ret0W (X : Stand p l e R (s.setVm vm₁) m args below meth c T locs cells slots) (hx : p.tables.exec = Jvm.exec) (hlk : meth.locks = false) (hS : s.Since vm₁ nS) (hk : nS ≤ T.heap.size) {pc : Nat} {Ls : Array Slot} (hret : meth.sig.returnType = none)
    (hd : decode c.code pc = .ok (.return_, 1)) (hc : cells ≤ kc) (hs : slots ≤ ks) (hq : Q none T.heap locs) : own_Ends p e below s ReturnedEndW Q kc ks (T.setTop (mkF m pc Ls [])) := by
  obtain ⟨fs, hr, hrun, hended, hW⟩ := X.leaveW hS hk (v := none) (fun _ => rfl) hlk
  exact ⟨_, _, X.returnOut hx hret hd hr, hrun, hended, _, _, rfl, hq, own_monoW hW hc hs⟩
end Own
theorem own_b1 : nar .boolean (1 : Int32) = 1 := rfl
theorem own_b0 : nar .boolean (0 : Int32) = 0 := rfl
section Own2
variable {p : Program} {l : Launch} {e : Env} {R : Room} {s sS : State} {m : MethodId} {args : Array Value} {below : List Frame} {meth : Method} {c : Code} {T : State} {locs : List Loc} {cells slots : Nat} {Q : Option Value → Heap → List Loc → Prop} {kc ks : Nat} {G : State → Outcome → State → List Loc → Nat → Nat → Prop}
theorem own_iloadN (X : Stand p l e R sS m args below meth c T locs cells slots) (hx : p.tables.exec = Jvm.exec) {code : ByteArray} (hby : c.code = code) {pc : Nat} {Ls : Array Slot} {St : List Value} {k : Fin 4} {v : Int32} (hd : decode code pc = .ok (.iload_n k, 1)) (hl : Ls[k.val]? = some (.val (.int v))) (k : own_Ends p e below s G Q kc ks (T.setTop (mkF m (pc + 1) Ls (.int v :: St)))) : own_Ends p e below s G Q kc ks (T.setTop (mkF m pc Ls (St))) := own_of (fun _ q => XS.iloadN X.here hx rfl (hb hby hd) hl q) k
theorem own_iload (X : Stand p l e R sS m args below meth c T locs cells slots) (hx : p.tables.exec = Jvm.exec) {code : ByteArray} (hby : c.code = code) {pc : Nat} {Ls : Array Slot} {St : List Value} {k : Nat} {v : Int32} (hd : decode code pc = .ok (.iload k, 2)) (hl : Ls[k]? = some (.val (.int v))) (k : own_Ends p e below s G Q kc ks (T.setTop (mkF m (pc + 2) Ls (.int v :: St)))) : own_Ends p e below s G Q kc ks (T.setTop (mkF m pc Ls (St))) := own_of (fun _ q => XS.iload X.here hx rfl (hb hby hd) hl q) k
theorem own_lloadN (X : Stand p l e R sS m args below meth c T locs cells slots) (hx : p.tables.exec = Jvm.exec) {code : ByteArray} (hby : c.code = code) {pc : Nat} {Ls : Array Slot} {St : List Value} {k : Fin 4} {v : Int64} (hd : decode code pc = .ok (.lload_n k, 1)) (hl : Ls[k.val]? = some (.val (.long v))) (k : own_Ends p e below s G Q kc ks (T.setTop (mkF m (pc + 1) Ls (.long v :: St)))) : own_Ends p e below s G Q kc ks (T.setTop (mkF m pc Ls (St))) := own_of (fun _ q => XT.lloadN X.here hx rfl (hb hby hd) hl q) k
theorem own_lload (X : Stand p l e R sS m args below meth c T locs cells slots) (hx : p.tables.exec = Jvm.exec) {code : ByteArray} (hby : c.code = code) {pc : Nat} {Ls : Array Slot} {St : List Value} {k : Nat} {v : Int64} (hd : decode code pc = .ok (.lload k, 2)) (hl : Ls[k]? = some (.val (.long v))) (k : own_Ends p e below s G Q kc ks (T.setTop (mkF m (pc + 2) Ls (.long v :: St)))) : own_Ends p e below s G Q kc ks (T.setTop (mkF m pc Ls (St))) := own_of (fun _ q => XT.lload X.here hx rfl (hb hby hd) hl q) k
theorem own_dloadN (X : Stand p l e R sS m args below meth c T locs cells slots) (hx : p.tables.exec = Jvm.exec) {code : ByteArray} (hby : c.code = code) {pc : Nat} {Ls : Array Slot} {St : List Value} {k : Fin 4} {v : UInt64} (hd : decode code pc = .ok (.dload_n k, 1)) (hl : Ls[k.val]? = some (.val (.double v))) (k : own_Ends p e below s G Q kc ks (T.setTop (mkF m (pc + 1) Ls (.double v :: St)))) : own_Ends p e below s G Q kc ks (T.setTop (mkF m pc Ls (St))) := own_of (fun _ q => XS.dloadN X.here hx rfl (hb hby hd) hl q) k
theorem own_dload (X : Stand p l e R sS m args below meth c T locs cells slots) (hx : p.tables.exec = Jvm.exec) {code : ByteArray} (hby : c.code = code) {pc : Nat} {Ls : Array Slot} {St : List Value} {k : Nat} {v : UInt64} (hd : decode code pc = .ok (.dload k, 2)) (hl : Ls[k]? = some (.val (.double v))) (k : own_Ends p e below s G Q kc ks (T.setTop (mkF m (pc + 2) Ls (.double v :: St)))) : own_Ends p e below s G Q kc ks (T.setTop (mkF m pc Ls (St))) := own_of (fun _ q => XS.dload X.here hx rfl (hb hby hd) hl q) k
theorem own_aloadN (X : Stand p l e R sS m args below meth c T locs cells slots) (hx : p.tables.exec = Jvm.exec) {code : ByteArray} (hby : c.code = code) {pc : Nat} {Ls : Array Slot} {St : List Value} {k : Fin 4} {v : Value} (hd : decode code pc = .ok (.aload_n k, 1)) (hl : Ls[k.val]? = some (.val v)) (hv : v.isRef = true) (k : own_Ends p e below s G Q kc ks (T.setTop (mkF m (pc + 1) Ls (v :: St)))) : own_Ends p e below s G Q kc ks (T.setTop (mkF m pc Ls (St))) := own_of (fun _ q => XS.aloadN X.here hx rfl (hb hby hd) hl hv q) k
theorem own_aload (X : Stand p l e R sS m args below meth c T locs cells slots) (hx : p.tables.exec = Jvm.exec) {code : ByteArray} (hby : c.code = code) {pc : Nat} {Ls : Array Slot} {St : List Value} {k : Nat} {v : Value} (hd : decode code pc = .ok (.aload k, 2)) (hl : Ls[k]? = some (.val v)) (hv : v.isRef = true) (k : own_Ends p e below s G Q kc ks (T.setTop (mkF m (pc + 2) Ls (v :: St)))) : own_Ends p e below s G Q kc ks (T.setTop (mkF m pc Ls (St))) := own_of (fun _ q => XS.aload X.here hx rfl (hb hby hd) hl hv q) k
theorem own_istoreN (X : Stand p l e R sS m args below meth c T locs cells slots) (hx : p.tables.exec = Jvm.exec) {code : ByteArray} (hby : c.code = code) {pc : Nat} {Ls : Array Slot} {St : List Value} {k : Fin 4} {x : Int32} {l' : Array Slot} (hd : decode code pc = .ok (.istore_n k, 1)) (hl : storeLocals Ls k.val (.int x) = some l') (k : own_Ends p e below s G Q kc ks (T.setTop (mkF m (pc + 1) l' (St)))) : own_Ends p e below s G Q kc ks (T.setTop (mkF m pc Ls (.int x :: St))) := own_of (fun _ q => XS.istoreN X.here hx rfl (hb hby hd) rfl hl q) k
theorem own_istore (X : Stand p l e R sS m args below meth c T locs cells slots) (hx : p.tables.exec = Jvm.exec) {code : ByteArray} (hby : c.code = code) {pc : Nat} {Ls : Array Slot} {St : List Value} {k : Nat} {x : Int32} {l' : Array Slot} (hd : decode code pc = .ok (.istore k, 2)) (hl : storeLocals Ls k (.int x) = some l') (k : own_Ends p e below s G Q kc ks (T.setTop (mkF m (pc + 2) l' (St)))) : own_Ends p e below s G Q kc ks (T.setTop (mkF m pc Ls (.int x :: St))) := own_of (fun _ q => XS.istore X.here hx rfl (hb hby hd) rfl hl q) k
theorem own_lstoreN (X : Stand p l e R sS m args below meth c T locs cells slots) (hx : p.tables.exec = Jvm.exec) {code : ByteArray} (hby : c.code = code) {pc : Nat} {Ls : Array Slot} {St : List Value} {k : Fin 4} {x : Int64} {l' : Array Slot} (hd : decode code pc = .ok (.lstore_n k, 1)) (hl : storeLocals Ls k.val (.long x) = some l') (k : own_Ends p e below s G Q kc ks (T.setTop (mkF m (pc + 1) l' (St)))) : own_Ends p e below s G Q kc ks (T.setTop (mkF m pc Ls (.long x :: St))) := own_of (fun _ q => XT.lstoreN X.here hx rfl (hb hby hd) rfl hl q) k
theorem own_lstore (X : Stand p l e R sS m args below meth c T locs cells slots) (hx : p.tables.exec = Jvm.exec) {code : ByteArray} (hby : c.code = code) {pc : Nat} {Ls : Array Slot} {St : List Value} {k : Nat} {x : Int64} {l' : Array Slot} (hd : decode code pc = .ok (.lstore k, 2)) (hl : storeLocals Ls k (.long x) = some l') (k : own_Ends p e below s G Q kc ks (T.setTop (mkF m (pc + 2) l' (St)))) : own_Ends p e below s G Q kc ks (T.setTop (mkF m pc Ls (.long x :: St))) := own_of (fun _ q => XT.lstore X.here hx rfl (hb hby hd) rfl hl q) k
theorem own_astoreN (X : Stand p l e R sS m args below meth c T locs cells slots) (hx : p.tables.exec = Jvm.exec) {code : ByteArray} (hby : c.code = code) {pc : Nat} {Ls : Array Slot} {St : List Value} {k : Fin 4} {x : Value} {l' : Array Slot} (hd : decode code pc = .ok (.astore_n k, 1)) (hv : x.isRef = true) (hl : storeLocals Ls k.val x = some l') (k : own_Ends p e below s G Q kc ks (T.setTop (mkF m (pc + 1) l' (St)))) : own_Ends p e below s G Q kc ks (T.setTop (mkF m pc Ls (x :: St))) := own_of (fun _ q => XS.astoreN X.here hx rfl (hb hby hd) rfl hv hl q) k
theorem own_astore (X : Stand p l e R sS m args below meth c T locs cells slots) (hx : p.tables.exec = Jvm.exec) {code : ByteArray} (hby : c.code = code) {pc : Nat} {Ls : Array Slot} {St : List Value} {k : Nat} {x : Value} {l' : Array Slot} (hd : decode code pc = .ok (.astore k, 2)) (hv : x.isRef = true) (hl : storeLocals Ls k x = some l') (k : own_Ends p e below s G Q kc ks (T.setTop (mkF m (pc + 2) l' (St)))) : own_Ends p e below s G Q kc ks (T.setTop (mkF m pc Ls (x :: St))) := own_of (fun _ q => XS.astore X.here hx rfl (hb hby hd) rfl hv hl q) k
theorem own_aconstNull (X : Stand p l e R sS m args below meth c T locs cells slots) (hx : p.tables.exec = Jvm.exec) {code : ByteArray} (hby : c.code = code) {pc : Nat} {Ls : Array Slot} {St : List Value}  (hd : decode code pc = .ok (.aconst_null, 1)) (k : own_Ends p e below s G Q kc ks (T.setTop (mkF m (pc + 1) Ls (.null :: St)))) : own_Ends p e below s G Q kc ks (T.setTop (mkF m pc Ls (St))) := own_of (fun _ q => XS.aconstNull X.here hx rfl (hb hby hd) q) k
theorem own_iadd (X : Stand p l e R sS m args below meth c T locs cells slots) (hx : p.tables.exec = Jvm.exec) {code : ByteArray} (hby : c.code = code) {pc : Nat} {Ls : Array Slot} {St : List Value} {x y : Int32} (hd : decode code pc = .ok (.iadd, 1)) (k : own_Ends p e below s G Q kc ks (T.setTop (mkF m (pc + 1) Ls (.int (x + y) :: St)))) : own_Ends p e below s G Q kc ks (T.setTop (mkF m pc Ls (.int y :: .int x :: St))) := own_of (fun _ q => XS.iadd X.here hx rfl (hb hby hd) rfl q) k
theorem own_isub (X : Stand p l e R sS m args below meth c T locs cells slots) (hx : p.tables.exec = Jvm.exec) {code : ByteArray} (hby : c.code = code) {pc : Nat} {Ls : Array Slot} {St : List Value} {x y : Int32} (hd : decode code pc = .ok (.isub, 1)) (k : own_Ends p e below s G Q kc ks (T.setTop (mkF m (pc + 1) Ls (.int (x - y) :: St)))) : own_Ends p e below s G Q kc ks (T.setTop (mkF m pc Ls (.int y :: .int x :: St))) := own_of (fun _ q => XS.isub X.here hx rfl (hb hby hd) rfl q) k
theorem own_imul (X : Stand p l e R sS m args below meth c T locs cells slots) (hx : p.tables.exec = Jvm.exec) {code : ByteArray} (hby : c.code = code) {pc : Nat} {Ls : Array Slot} {St : List Value} {x y : Int32} (hd : decode code pc = .ok (.imul, 1)) (k : own_Ends p e below s G Q kc ks (T.setTop (mkF m (pc + 1) Ls (.int (x * y) :: St)))) : own_Ends p e below s G Q kc ks (T.setTop (mkF m pc Ls (.int y :: .int x :: St))) := own_of (fun _ q => XS.imul X.here hx rfl (hb hby hd) rfl q) k
theorem own_iand (X : Stand p l e R sS m args below meth c T locs cells slots) (hx : p.tables.exec = Jvm.exec) {code : ByteArray} (hby : c.code = code) {pc : Nat} {Ls : Array Slot} {St : List Value} {x y : Int32} (hd : decode code pc = .ok (.iand, 1)) (k : own_Ends p e below s G Q kc ks (T.setTop (mkF m (pc + 1) Ls (.int (x &&& y) :: St)))) : own_Ends p e below s G Q kc ks (T.setTop (mkF m pc Ls (.int y :: .int x :: St))) := own_of (fun _ q => XS.iand X.here hx rfl (hb hby hd) rfl q) k
theorem own_ior (X : Stand p l e R sS m args below meth c T locs cells slots) (hx : p.tables.exec = Jvm.exec) {code : ByteArray} (hby : c.code = code) {pc : Nat} {Ls : Array Slot} {St : List Value} {x y : Int32} (hd : decode code pc = .ok (.ior, 1)) (k : own_Ends p e below s G Q kc ks (T.setTop (mkF m (pc + 1) Ls (.int (x ||| y) :: St)))) : own_Ends p e below s G Q kc ks (T.setTop (mkF m pc Ls (.int y :: .int x :: St))) := own_of (fun _ q => XT.ior X.here hx rfl (hb hby hd) rfl q) k
theorem own_ixor (X : Stand p l e R sS m args below meth c T locs cells slots) (hx : p.tables.exec = Jvm.exec) {code : ByteArray} (hby : c.code = code) {pc : Nat} {Ls : Array Slot} {St : List Value} {x y : Int32} (hd : decode code pc = .ok (.ixor, 1)) (k : own_Ends p e below s G Q kc ks (T.setTop (mkF m (pc + 1) Ls (.int (x ^^^ y) :: St)))) : own_Ends p e below s G Q kc ks (T.setTop (mkF m pc Ls (.int y :: .int x :: St))) := own_of (fun _ q => XT.ixor X.here hx rfl (hb hby hd) rfl q) k
theorem own_ladd (X : Stand p l e R sS m args below meth c T locs cells slots) (hx : p.tables.exec = Jvm.exec) {code : ByteArray} (hby : c.code = code) {pc : Nat} {Ls : Array Slot} {St : List Value} {x y : Int64} (hd : decode code pc = .ok (.ladd, 1)) (k : own_Ends p e below s G Q kc ks (T.setTop (mkF m (pc + 1) Ls (.long (x + y) :: St)))) : own_Ends p e below s G Q kc ks (T.setTop (mkF m pc Ls (.long y :: .long x :: St))) := own_of (fun _ q => XT.ladd X.here hx rfl (hb hby hd) rfl q) k
theorem own_lsub (X : Stand p l e R sS m args below meth c T locs cells slots) (hx : p.tables.exec = Jvm.exec) {code : ByteArray} (hby : c.code = code) {pc : Nat} {Ls : Array Slot} {St : List Value} {x y : Int64} (hd : decode code pc = .ok (.lsub, 1)) (k : own_Ends p e below s G Q kc ks (T.setTop (mkF m (pc + 1) Ls (.long (x - y) :: St)))) : own_Ends p e below s G Q kc ks (T.setTop (mkF m pc Ls (.long y :: .long x :: St))) := own_of (fun _ q => XT.lsub X.here hx rfl (hb hby hd) rfl q) k
theorem own_lmul (X : Stand p l e R sS m args below meth c T locs cells slots) (hx : p.tables.exec = Jvm.exec) {code : ByteArray} (hby : c.code = code) {pc : Nat} {Ls : Array Slot} {St : List Value} {x y : Int64} (hd : decode code pc = .ok (.lmul, 1)) (k : own_Ends p e below s G Q kc ks (T.setTop (mkF m (pc + 1) Ls (.long (x * y) :: St)))) : own_Ends p e below s G Q kc ks (T.setTop (mkF m pc Ls (.long y :: .long x :: St))) := own_of (fun _ q => XT.lmul X.here hx rfl (hb hby hd) rfl q) k
theorem own_land (X : Stand p l e R sS m args below meth c T locs cells slots) (hx : p.tables.exec = Jvm.exec) {code : ByteArray} (hby : c.code = code) {pc : Nat} {Ls : Array Slot} {St : List Value} {x y : Int64} (hd : decode code pc = .ok (.land, 1)) (k : own_Ends p e below s G Q kc ks (T.setTop (mkF m (pc + 1) Ls (.long (x &&& y) :: St)))) : own_Ends p e below s G Q kc ks (T.setTop (mkF m pc Ls (.long y :: .long x :: St))) := own_of (fun _ q => XT.land X.here hx rfl (hb hby hd) rfl q) k
theorem own_lor (X : Stand p l e R sS m args below meth c T locs cells slots) (hx : p.tables.exec = Jvm.exec) {code : ByteArray} (hby : c.code = code) {pc : Nat} {Ls : Array Slot} {St : List Value} {x y : Int64} (hd : decode code pc = .ok (.lor, 1)) (k : own_Ends p e below s G Q kc ks (T.setTop (mkF m (pc + 1) Ls (.long (x ||| y) :: St)))) : own_Ends p e below s G Q kc ks (T.setTop (mkF m pc Ls (.long y :: .long x :: St))) := own_of (fun _ q => XT.lor X.here hx rfl (hb hby hd) rfl q) k
theorem own_lxor (X : Stand p l e R sS m args below meth c T locs cells slots) (hx : p.tables.exec = Jvm.exec) {code : ByteArray} (hby : c.code = code) {pc : Nat} {Ls : Array Slot} {St : List Value} {x y : Int64} (hd : decode code pc = .ok (.lxor, 1)) (k : own_Ends p e below s G Q kc ks (T.setTop (mkF m (pc + 1) Ls (.long (x ^^^ y) :: St)))) : own_Ends p e below s G Q kc ks (T.setTop (mkF m pc Ls (.long y :: .long x :: St))) := own_of (fun _ q => XT.lxor X.here hx rfl (hb hby hd) rfl q) k
theorem own_ishl (X : Stand p l e R sS m args below meth c T locs cells slots) (hx : p.tables.exec = Jvm.exec) {code : ByteArray} (hby : c.code = code) {pc : Nat} {Ls : Array Slot} {St : List Value} {x y : Int32} (hd : decode code pc = .ok (.ishl, 1)) (k : own_Ends p e below s G Q kc ks (T.setTop (mkF m (pc + 1) Ls (.int (x <<< (y &&& 31)) :: St)))) : own_Ends p e below s G Q kc ks (T.setTop (mkF m pc Ls (.int y :: .int x :: St))) := own_of (fun _ q => XT.ishl X.here hx rfl (hb hby hd) rfl q) k
theorem own_ishr (X : Stand p l e R sS m args below meth c T locs cells slots) (hx : p.tables.exec = Jvm.exec) {code : ByteArray} (hby : c.code = code) {pc : Nat} {Ls : Array Slot} {St : List Value} {x y : Int32} (hd : decode code pc = .ok (.ishr, 1)) (k : own_Ends p e below s G Q kc ks (T.setTop (mkF m (pc + 1) Ls (.int (x >>> (y &&& 31)) :: St)))) : own_Ends p e below s G Q kc ks (T.setTop (mkF m pc Ls (.int y :: .int x :: St))) := own_of (fun _ q => XT.ishr X.here hx rfl (hb hby hd) rfl q) k
theorem own_iushr (X : Stand p l e R sS m args below meth c T locs cells slots) (hx : p.tables.exec = Jvm.exec) {code : ByteArray} (hby : c.code = code) {pc : Nat} {Ls : Array Slot} {St : List Value} {x y : Int32} (hd : decode code pc = .ok (.iushr, 1)) (k : own_Ends p e below s G Q kc ks (T.setTop (mkF m (pc + 1) Ls (.int (XT.ushr x y) :: St)))) : own_Ends p e below s G Q kc ks (T.setTop (mkF m pc Ls (.int y :: .int x :: St))) := own_of (fun _ q => XT.iushr X.here hx rfl (hb hby hd) rfl q) k
theorem own_lshl (X : Stand p l e R sS m args below meth c T locs cells slots) (hx : p.tables.exec = Jvm.exec) {code : ByteArray} (hby : c.code = code) {pc : Nat} {Ls : Array Slot} {St : List Value} {x : Int64} {y : Int32} (hd : decode code pc = .ok (.lshl, 1)) (k : own_Ends p e below s G Q kc ks (T.setTop (mkF m (pc + 1) Ls (.long (x <<< (y.toInt64 &&& 63)) :: St)))) : own_Ends p e below s G Q kc ks (T.setTop (mkF m pc Ls (.int y :: .long x :: St))) := own_of (fun _ q => XT.lshl X.here hx rfl (hb hby hd) rfl q) k
theorem own_lshr (X : Stand p l e R sS m args below meth c T locs cells slots) (hx : p.tables.exec = Jvm.exec) {code : ByteArray} (hby : c.code = code) {pc : Nat} {Ls : Array Slot} {St : List Value} {x : Int64} {y : Int32} (hd : decode code pc = .ok (.lshr, 1)) (k : own_Ends p e below s G Q kc ks (T.setTop (mkF m (pc + 1) Ls (.long (x >>> (y.toInt64 &&& 63)) :: St)))) : own_Ends p e below s G Q kc ks (T.setTop (mkF m pc Ls (.int y :: .long x :: St))) := own_of (fun _ q => XT.lshr X.here hx rfl (hb hby hd) rfl q) k
theorem own_lushr (X : Stand p l e R sS m args below meth c T locs cells slots) (hx : p.tables.exec = Jvm.exec) {code : ByteArray} (hby : c.code = code) {pc : Nat} {Ls : Array Slot} {St : List Value} {x : Int64} {y : Int32} (hd : decode code pc = .ok (.lushr, 1)) (k : own_Ends p e below s G Q kc ks (T.setTop (mkF m (pc + 1) Ls (.long (XT.ushrL x y) :: St)))) : own_Ends p e below s G Q kc ks (T.setTop (mkF m pc Ls (.int y :: .long x :: St))) := own_of (fun _ q => XT.lushr X.here hx rfl (hb hby hd) rfl q) k
theorem own_ineg (X : Stand p l e R sS m args below meth c T locs cells slots) (hx : p.tables.exec = Jvm.exec) {code : ByteArray} (hby : c.code = code) {pc : Nat} {Ls : Array Slot} {St : List Value} {x : Int32} (hd : decode code pc = .ok (.ineg, 1)) (k : own_Ends p e below s G Q kc ks (T.setTop (mkF m (pc + 1) Ls (.int (-x) :: St)))) : own_Ends p e below s G Q kc ks (T.setTop (mkF m pc Ls (.int x :: St))) := own_of (fun _ q => XS.ineg X.here hx rfl (hb hby hd) rfl q) k
theorem own_lneg (X : Stand p l e R sS m args below meth c T locs cells slots) (hx : p.tables.exec = Jvm.exec) {code : ByteArray} (hby : c.code = code) {pc : Nat} {Ls : Array Slot} {St : List Value} {x : Int64} (hd : decode code pc = .ok (.lneg, 1)) (k : own_Ends p e below s G Q kc ks (T.setTop (mkF m (pc + 1) Ls (.long (-x) :: St)))) : own_Ends p e below s G Q kc ks (T.setTop (mkF m pc Ls (.long x :: St))) := own_of (fun _ q => XT.lneg X.here hx rfl (hb hby hd) rfl q) k
theorem own_i2l (X : Stand p l e R sS m args below meth c T locs cells slots) (hx : p.tables.exec = Jvm.exec) {code : ByteArray} (hby : c.code = code) {pc : Nat} {Ls : Array Slot} {St : List Value} {x : Int32} (hd : decode code pc = .ok (.i2l, 1)) (k : own_Ends p e below s G Q kc ks (T.setTop (mkF m (pc + 1) Ls (.long (x.toInt64) :: St)))) : own_Ends p e below s G Q kc ks (T.setTop (mkF m pc Ls (.int x :: St))) := own_of (fun _ q => XT.i2l X.here hx rfl (hb hby hd) rfl q) k
theorem own_l2i (X : Stand p l e R sS m args below meth c T locs cells slots) (hx : p.tables.exec = Jvm.exec) {code : ByteArray} (hby : c.code = code) {pc : Nat} {Ls : Array Slot} {St : List Value} {x : Int64} (hd : decode code pc = .ok (.l2i, 1)) (k : own_Ends p e below s G Q kc ks (T.setTop (mkF m (pc + 1) Ls (.int (x.toInt32) :: St)))) : own_Ends p e below s G Q kc ks (T.setTop (mkF m pc Ls (.long x :: St))) := own_of (fun _ q => XT.l2i X.here hx rfl (hb hby hd) rfl q) k
theorem own_i2b (X : Stand p l e R sS m args below meth c T locs cells slots) (hx : p.tables.exec = Jvm.exec) {code : ByteArray} (hby : c.code = code) {pc : Nat} {Ls : Array Slot} {St : List Value} {x : Int32} (hd : decode code pc = .ok (.i2b, 1)) (k : own_Ends p e below s G Q kc ks (T.setTop (mkF m (pc + 1) Ls (.int (x.toInt8.toInt32) :: St)))) : own_Ends p e below s G Q kc ks (T.setTop (mkF m pc Ls (.int x :: St))) := own_of (fun _ q => XT.i2b X.here hx rfl (hb hby hd) rfl q) k
theorem own_i2s (X : Stand p l e R sS m args below meth c T locs cells slots) (hx : p.tables.exec = Jvm.exec) {code : ByteArray} (hby : c.code = code) {pc : Nat} {Ls : Array Slot} {St : List Value} {x : Int32} (hd : decode code pc = .ok (.i2s, 1)) (k : own_Ends p e below s G Q kc ks (T.setTop (mkF m (pc + 1) Ls (.int (x.toInt16.toInt32) :: St)))) : own_Ends p e below s G Q kc ks (T.setTop (mkF m pc Ls (.int x :: St))) := own_of (fun _ q => XT.i2s X.here hx rfl (hb hby hd) rfl q) k
theorem own_i2c (X : Stand p l e R sS m args below meth c T locs cells slots) (hx : p.tables.exec = Jvm.exec) {code : ByteArray} (hby : c.code = code) {pc : Nat} {Ls : Array Slot} {St : List Value} {x : Int32} (hd : decode code pc = .ok (.i2c, 1)) (k : own_Ends p e below s G Q kc ks (T.setTop (mkF m (pc + 1) Ls (.int (x.toUInt32.toUInt16.toUInt32.toInt32) :: St)))) : own_Ends p e below s G Q kc ks (T.setTop (mkF m pc Ls (.int x :: St))) := own_of (fun _ q => XT.i2c X.here hx rfl (hb hby hd) rfl q) k
theorem own_lcmp (X : Stand p l e R sS m args below meth c T locs cells slots) (hx : p.tables.exec = Jvm.exec) {code : ByteArray} (hby : c.code = code) {pc : Nat} {Ls : Array Slot} {St : List Value} {x y : Int64} (hd : decode code pc = .ok (.lcmp, 1)) (k : own_Ends p e below s G Q kc ks (T.setTop (mkF m (pc + 1) Ls (.int (XT.cmpL x y) :: St)))) : own_Ends p e below s G Q kc ks (T.setTop (mkF m pc Ls (.long y :: .long x :: St))) := own_of (fun _ q => XT.lcmp X.here hx rfl (hb hby hd) rfl q) k
theorem own_dup (X : Stand p l e R sS m args below meth c T locs cells slots) (hx : p.tables.exec = Jvm.exec) {code : ByteArray} (hby : c.code = code) {pc : Nat} {Ls : Array Slot} {St : List Value} {x : Value} (hd : decode code pc = .ok (.dup, 1)) (hc : x.category = 1) (k : own_Ends p e below s G Q kc ks (T.setTop (mkF m (pc + 1) Ls (x :: x :: St)))) : own_Ends p e below s G Q kc ks (T.setTop (mkF m pc Ls (x :: St))) := own_of (fun _ q => XS.dup X.here hx rfl (hb hby hd) rfl hc q) k
theorem own_dupX1 (X : Stand p l e R sS m args below meth c T locs cells slots) (hx : p.tables.exec = Jvm.exec) {code : ByteArray} (hby : c.code = code) {pc : Nat} {Ls : Array Slot} {St : List Value} {x y : Value} (hd : decode code pc = .ok (.dup_x1, 1)) (hc : x.category = 1) (hc' : y.category = 1) (k : own_Ends p e below s G Q kc ks (T.setTop (mkF m (pc + 1) Ls (x :: y :: x :: St)))) : own_Ends p e below s G Q kc ks (T.setTop (mkF m pc Ls (x :: y :: St))) := own_of (fun _ q => XT.dupX1 X.here hx rfl (hb hby hd) rfl hc hc' q) k
theorem own_dup2 (X : Stand p l e R sS m args below meth c T locs cells slots) (hx : p.tables.exec = Jvm.exec) {code : ByteArray} (hby : c.code = code) {pc : Nat} {Ls : Array Slot} {St : List Value} {x y : Value} (hd : decode code pc = .ok (.dup2, 1)) (hc : x.category = 1) (hc' : y.category = 1) (k : own_Ends p e below s G Q kc ks (T.setTop (mkF m (pc + 1) Ls (x :: y :: x :: y :: St)))) : own_Ends p e below s G Q kc ks (T.setTop (mkF m pc Ls (x :: y :: St))) := own_of (fun _ q => XT.dup2 X.here hx rfl (hb hby hd) rfl hc hc' q) k
theorem own_dup2L (X : Stand p l e R sS m args below meth c T locs cells slots) (hx : p.tables.exec = Jvm.exec) {code : ByteArray} (hby : c.code = code) {pc : Nat} {Ls : Array Slot} {St : List Value} {x : Int64} (hd : decode code pc = .ok (.dup2, 1)) (k : own_Ends p e below s G Q kc ks (T.setTop (mkF m (pc + 1) Ls (.long x :: .long x :: St)))) : own_Ends p e below s G Q kc ks (T.setTop (mkF m pc Ls (.long x :: St))) := own_of (fun _ q => XT.dup2L X.here hx rfl (hb hby hd) rfl q) k
theorem own_pop (X : Stand p l e R sS m args below meth c T locs cells slots) (hx : p.tables.exec = Jvm.exec) {code : ByteArray} (hby : c.code = code) {pc : Nat} {Ls : Array Slot} {St : List Value} {x : Value} (hd : decode code pc = .ok (.pop, 1)) (hc : x.category = 1) (k : own_Ends p e below s G Q kc ks (T.setTop (mkF m (pc + 1) Ls (St)))) : own_Ends p e below s G Q kc ks (T.setTop (mkF m pc Ls (x :: St))) := own_of (fun _ q => XT.pop X.here hx rfl (hb hby hd) rfl hc q) k
theorem own_iinc (X : Stand p l e R sS m args below meth c T locs cells slots) (hx : p.tables.exec = Jvm.exec) {code : ByteArray} (hby : c.code = code) {pc : Nat} {Ls : Array Slot} {St : List Value} {k : Nat} {cst : Int} {x : Int32} {l' : Array Slot} (hd : decode code pc = .ok (.iinc k cst, 3)) (hl : Ls[k]? = some (.val (.int x))) (hl' : storeLocals Ls k (.int (x + Int32.ofInt cst)) = some l') (k : own_Ends p e below s G Q kc ks (T.setTop (mkF m (pc + 3) l' (St)))) : own_Ends p e below s G Q kc ks (T.setTop (mkF m pc Ls (St))) := own_of (fun _ q => XS.iinc X.here hx rfl (hb hby hd) hl hl' q) k
theorem own_iconst (X : Stand p l e R sS m args below meth c T locs cells slots) (hx : p.tables.exec = Jvm.exec) {code : ByteArray} (hby : c.code = code) {pc : Nat} {Ls : Array Slot} {St : List Value} {i : Int} (z : Int32) (hd : decode code pc = .ok (.iconst i, 1)) (hz : Int32.ofInt i = z) (k : own_Ends p e below s G Q kc ks (T.setTop (mkF m (pc + 1) Ls (.int z :: St)))) : own_Ends p e below s G Q kc ks (T.setTop (mkF m pc Ls St)) := by subst hz; exact own_of (fun _ q => XS.iconst X.here hx rfl (hb hby hd) q) k
theorem own_bipush (X : Stand p l e R sS m args below meth c T locs cells slots) (hx : p.tables.exec = Jvm.exec) {code : ByteArray} (hby : c.code = code) {pc : Nat} {Ls : Array Slot} {St : List Value} {i : Int} (z : Int32) (hd : decode code pc = .ok (.bipush i, 2)) (hz : (Int8.ofInt i).toInt32 = z) (k : own_Ends p e below s G Q kc ks (T.setTop (mkF m (pc + 2) Ls (.int z :: St)))) : own_Ends p e below s G Q kc ks (T.setTop (mkF m pc Ls St)) := by subst hz; exact own_of (fun _ q => XS.bipush X.here hx rfl (hb hby hd) q) k
theorem own_sipush (X : Stand p l e R sS m args below meth c T locs cells slots) (hx : p.tables.exec = Jvm.exec) {code : ByteArray} (hby : c.code = code) {pc : Nat} {Ls : Array Slot} {St : List Value} {i : Int} (z : Int32) (hd : decode code pc = .ok (.sipush i, 3)) (hz : (Int16.ofInt i).toInt32 = z) (k : own_Ends p e below s G Q kc ks (T.setTop (mkF m (pc + 3) Ls (.int z :: St)))) : own_Ends p e below s G Q kc ks (T.setTop (mkF m pc Ls St)) := by subst hz; exact own_of (fun _ q => XS.sipush X.here hx rfl (hb hby hd) q) k
theorem own_lconst (X : Stand p l e R sS m args below meth c T locs cells slots) (hx : p.tables.exec = Jvm.exec) {code : ByteArray} (hby : c.code = code) {pc : Nat} {Ls : Array Slot} {St : List Value} {i : Fin 2} (z : Int64) (hd : decode code pc = .ok (.lconst i, 1)) (hz : Int64.ofNat i = z) (k : own_Ends p e below s G Q kc ks (T.setTop (mkF m (pc + 1) Ls (.long z :: St)))) : own_Ends p e below s G Q kc ks (T.setTop (mkF m pc Ls St)) := by subst hz; exact own_of (fun _ q => XT.lconst X.here hx rfl (hb hby hd) q) k
theorem own_goto (X : Stand p l e R sS m args below meth c T locs cells slots) (hx : p.tables.exec = Jvm.exec) {code : ByteArray} (hby : c.code = code) {Ls : Array Slot} {St : List Value} (pc pc' : Nat) {o : Int}  (hd : decode code pc = .ok (.goto o, 3)) (ho : 0 ≤ (pc : Int) + o) (hp : ((pc : Int) + o).toNat = pc') (k : own_Ends p e below s G Q kc ks (T.setTop (mkF m pc' Ls St))) : own_Ends p e below s G Q kc ks (T.setTop (mkF m pc Ls (St))) := own_of (fun _ q => XS.goto X.here hx rfl (pc0 := pc) (pc' := pc') rfl (hb hby hd) ho hp q) k
theorem own_ifYes (X : Stand p l e R sS m args below meth c T locs cells slots) (hx : p.tables.exec = Jvm.exec) {code : ByteArray} (hby : c.code = code) {Ls : Array Slot} {St : List Value} (pc pc' : Nat) {o : Int} {cd : ClassFile.Cond} {x : Int32} (hd : decode code pc = .ok (.ifCond cd o, 3)) (hc : ifCond.holds cd x = true) (ho : 0 ≤ (pc : Int) + o) (hp : ((pc : Int) + o).toNat = pc') (k : own_Ends p e below s G Q kc ks (T.setTop (mkF m pc' Ls St))) : own_Ends p e below s G Q kc ks (T.setTop (mkF m pc Ls (.int x :: St))) := own_of (fun _ q => XS.ifYes X.here hx rfl (pc0 := pc) (pc' := pc') rfl (hb hby hd) rfl hc ho hp q) k
theorem own_icmpYes (X : Stand p l e R sS m args below meth c T locs cells slots) (hx : p.tables.exec = Jvm.exec) {code : ByteArray} (hby : c.code = code) {Ls : Array Slot} {St : List Value} (pc pc' : Nat) {o : Int} {cd : ClassFile.Cond} {x y : Int32} (hd : decode code pc = .ok (.if_icmp cd o, 3)) (hc : if_icmp.holds cd x y = true) (ho : 0 ≤ (pc : Int) + o) (hp : ((pc : Int) + o).toNat = pc') (k : own_Ends p e below s G Q kc ks (T.setTop (mkF m pc' Ls St))) : own_Ends p e below s G Q kc ks (T.setTop (mkF m pc Ls (.int y :: .int x :: St))) := own_of (fun _ q => XS.icmpYes X.here hx rfl (pc0 := pc) (pc' := pc') rfl (hb hby hd) rfl hc ho hp q) k
theorem own_ifnullYes (X : Stand p l e R sS m args below meth c T locs cells slots) (hx : p.tables.exec = Jvm.exec) {code : ByteArray} (hby : c.code = code) {Ls : Array Slot} {St : List Value} (pc pc' : Nat) {o : Int}  (hd : decode code pc = .ok (.ifnull o, 3)) (ho : 0 ≤ (pc : Int) + o) (hp : ((pc : Int) + o).toNat = pc') (k : own_Ends p e below s G Q kc ks (T.setTop (mkF m pc' Ls St))) : own_Ends p e below s G Q kc ks (T.setTop (mkF m pc Ls (.null :: St))) := own_of (fun _ q => XS.ifnullYes X.here hx rfl (pc0 := pc) (pc' := pc') rfl (hb hby hd) rfl ho hp q) k
theorem own_ifnonnullYes (X : Stand p l e R sS m args below meth c T locs cells slots) (hx : p.tables.exec = Jvm.exec) {code : ByteArray} (hby : c.code = code) {Ls : Array Slot} {St : List Value} (pc pc' : Nat) {o : Int} {b : Addr} (hd : decode code pc = .ok (.ifnonnull o, 3)) (ho : 0 ≤ (pc : Int) + o) (hp : ((pc : Int) + o).toNat = pc') (k : own_Ends p e below s G Q kc ks (T.setTop (mkF m pc' Ls St))) : own_Ends p e below s G Q kc ks (T.setTop (mkF m pc Ls (.ref b :: St))) := own_of (fun _ q => XT.ifnonnullYes X.here hx rfl (pc0 := pc) (pc' := pc') rfl (hb hby hd) rfl ho hp q) k
theorem own_ifNo (X : Stand p l e R sS m args below meth c T locs cells slots) (hx : p.tables.exec = Jvm.exec) {code : ByteArray} (hby : c.code = code) {pc : Nat} {Ls : Array Slot} {St : List Value} {cd : ClassFile.Cond} {o : Int} {x : Int32} (hd : decode code pc = .ok (.ifCond cd o, 3)) (hc : ifCond.holds cd x = false) (k : own_Ends p e below s G Q kc ks (T.setTop (mkF m (pc + 3) Ls (St)))) : own_Ends p e below s G Q kc ks (T.setTop (mkF m pc Ls (.int x :: St))) := own_of (fun _ q => XS.ifNo X.here hx rfl (hb hby hd) rfl hc q) k
theorem own_icmpNo (X : Stand p l e R sS m args below meth c T locs cells slots) (hx : p.tables.exec = Jvm.exec) {code : ByteArray} (hby : c.code = code) {pc : Nat} {Ls : Array Slot} {St : List Value} {cd : ClassFile.Cond} {o : Int} {x y : Int32} (hd : decode code pc = .ok (.if_icmp cd o, 3)) (hc : if_icmp.holds cd x y = false) (k : own_Ends p e below s G Q kc ks (T.setTop (mkF m (pc + 3) Ls (St)))) : own_Ends p e below s G Q kc ks (T.setTop (mkF m pc Ls (.int y :: .int x :: St))) := own_of (fun _ q => XS.icmpNo X.here hx rfl (hb hby hd) rfl hc q) k
theorem own_ifnullNo (X : Stand p l e R sS m args below meth c T locs cells slots) (hx : p.tables.exec = Jvm.exec) {code : ByteArray} (hby : c.code = code) {pc : Nat} {Ls : Array Slot} {St : List Value} {o : Int} {b : Addr} (hd : decode code pc = .ok (.ifnull o, 3)) (k : own_Ends p e below s G Q kc ks (T.setTop (mkF m (pc + 3) Ls (St)))) : own_Ends p e below s G Q kc ks (T.setTop (mkF m pc Ls (.ref b :: St))) := own_of (fun _ q => XS.ifnullNo X.here hx rfl (hb hby hd) rfl q) k
theorem own_ifnonnullNo (X : Stand p l e R sS m args below meth c T locs cells slots) (hx : p.tables.exec = Jvm.exec) {code : ByteArray} (hby : c.code = code) {pc : Nat} {Ls : Array Slot} {St : List Value} {o : Int} (hd : decode code pc = .ok (.ifnonnull o, 3)) (k : own_Ends p e below s G Q kc ks (T.setTop (mkF m (pc + 3) Ls (St)))) : own_Ends p e below s G Q kc ks (T.setTop (mkF m pc Ls (.null :: St))) := own_of (fun _ q => XT.ifnonnullNo X.here hx rfl (hb hby hd) rfl q) k
end Own2
theorem own_w {Z : State} {a0 : Array Value} (hw : ∀ d ∈ tables_1, d.before a0 Z = true) (i : Nat) {d : Jvm.Cond} (h : tables_1[i]? = some d) : d.before a0 Z = true := hw _ (List.mem_of_getElem? h)
theorem own_eqk {args : Array Value} {s : State} {t : Term} {k : Int32} (h : (Cond.eq t (.int k)).value args s none s [] = some true) : t.eval args s none [] s = some (.int k) := by
  obtain ⟨x, y, ex, ey, k1, k2⟩ := cmp_v (Or.inl h)
  obtain rfl : y = .int k := (Option.some.inj ((Term.int_eval k).symm.trans ey)).symm
  obtain ⟨z, rfl⟩ := k2
  rw [ex, gotT (Cond.eq_ints ex ey) h]
theorem own_staKeep {Z : State} {h h' : Heap} {C n d : String} {v : Value} {ws : List Addr} (F : Sta Z h C n d v) (K : Keep h h' ws) (q : ∀ x ∈ ws, ∀ c : Cell, h[x]? = some c → c.vm.isStatics = false) : Sta Z h' C n d v := by
  obtain ⟨cf, i, k, f, st, cell, h1, h2, h3, h4, h5, h6, h7⟩ := F
  refine ⟨cf, i, k, f, st, cell, h1, h2, h3, h4, K.2.1 st cell h5 (fun z => ?_), h6, h7⟩
  have := q st z cell h5
  rw [h6] at this; cases this
theorem own_len0 {args : Array Value} {s : State} {t : Term} {a : Addr} {cl : Cell} {ty : FieldType} (et : t.eval args s none [] s = some (.ref a)) (A : Arr s s.heap a cl ty) (h : (Term.length t).eval args s none [] s = some (.int 0)) : cl.slots.size = 0 := by
  have q : s.arrayAt? a = some cl := Arr.fin (U := s) (State.Warmed39.refl s).alike A
  by_cases hz : cl.slots.size < 2 ^ 31
  · have e := (len_f et q hz).symm.trans h
    have e2 := congrArg Int32.toInt (Value.int.inj (Option.some.inj e))
    have z : (0 : Int32).toInt = 0 := by decide
    rw [z, show cl.slots.size.toInt32.toInt = (cl.slots.size : Int) from Int32.toInt_ofNat_small hz] at e2
    omega
  · simp [Term.eval, et, q, hz] at h
theorem own_mod3 (x : Int32) : ((x &&& 2147483647) % 3) = 0 ∨ ((x &&& 2147483647) % 3) = 1 ∨ ((x &&& 2147483647) % 3) = 2 := by
  have e1 := Jvm.Kit.i32_mask x 2147483647 (k := 31) (by decide) (by decide)
  have e2 := Jvm.Kit.i32_rem_nonneg (x := x &&& 2147483647) (y := 3) (by omega)
  have c0 : (0 : Int32).toInt = 0 := by decide
  have c1 : (1 : Int32).toInt = 1 := by decide
  have c2 : (2 : Int32).toInt = 2 := by decide
  have c3 : (3 : Int32).toInt = 3 := by decide
  rw [← Int32.toInt_inj, ← Int32.toInt_inj, ← Int32.toInt_inj, e2, c0, c1, c2, c3]
  omega
abbrev mN_0 : MethodName := ⟨"com/example/opt2/opt2/plan/Plan", "<init>", "([I[[ID)V"⟩
theorem d2_0 : decode prog_32_method_4_code 0 = .ok (.aload_n 0, 1) := by decide +kernel
theorem d2_1 : decode prog_32_method_4_code 1 = .ok (.invokespecial 11, 3) := by decide +kernel
theorem d2_4 : decode prog_32_method_4_code 4 = .ok (.aload_n 0, 1) := by decide +kernel
theorem d2_5 : decode prog_32_method_4_code 5 = .ok (.aload_n 1, 1) := by decide +kernel
theorem d2_6 : decode prog_32_method_4_code 6 = .ok (.putfield 16, 3) := by decide +kernel
theorem d2_9 : decode prog_32_method_4_code 9 = .ok (.aload_n 0, 1) := by decide +kernel
theorem d2_10 : decode prog_32_method_4_code 10 = .ok (.aload_n 2, 1) := by decide +kernel
theorem d2_11 : decode prog_32_method_4_code 11 = .ok (.putfield 20, 3) := by decide +kernel
theorem d2_14 : decode prog_32_method_4_code 14 = .ok (.aload_n 0, 1) := by decide +kernel
theorem d2_15 : decode prog_32_method_4_code 15 = .ok (.dload_n 3, 1) := by decide +kernel
theorem d2_16 : decode prog_32_method_4_code 16 = .ok (.putfield 24, 3) := by decide +kernel
theorem d2_19 : decode prog_32_method_4_code 19 = .ok (.return_, 1) := by decide +kernel
theorem pn_0 : plainName "com/example/opt2/opt2/plan/Plan" = true := by first | (simp [plainName, overriddenIn]; done) | decide +kernel
theorem ef_c0 (m : MethodId) (x0 : Addr) (x1 : Addr) (x3 : UInt64) : entryFrame m #[(.ref x0), (.ref x1), .null, (.double x3)] 5 = mkF m 0 #[.val (.ref x0), .val (.ref x1), .val .null, .val (.double x3), .second] [] := by first | (simp [entryFrame, mkF, argsToLocals, Value.category]; done) | rfl
def Qc0 (Z : State) (a1 a2 : Addr) (d4 : UInt64) (h0 : Heap) (n0 : Nat) (v : Option Value) (h : Heap) (L : List Loc) : Prop := v = none ∧ Fr n0 L ∧ Keep h0 h [a1] ∧ Fld Z h a1 "com/example/opt2/opt2/plan/Plan" "machines" "[[I" .null
set_option maxRecDepth 65536 in
set_option maxHeartbeats 40000000 in
theorem rmc0 (l : Launch) (Z : State) (a0 : Array Value) (hw : ∀ d ∈ tables_1, d.before a0 Z = true) (ws : List Jvm.Cond) (a1 a2 : Addr) (d4 : UInt64) (h0 : Heap) (n0 : Nat) (Z0 : n0 ≤ h0.size) (E1 : Exa Z h0 a1 "com/example/opt2/opt2/plan/Plan") (Fs : Fld Z h0 a1 "com/example/opt2/opt2/plan/Plan" "sites" "[I" .null) (Fm : Fld Z h0 a1 "com/example/opt2/opt2/plan/Plan" "machines" "[[I" .null) (Fe : Fld Z h0 a1 "com/example/opt2/opt2/plan/Plan" "estimatedSeconds" "D" (.double (0 : UInt64))) (g_a1 : n0 ≤ a1) :
    MetFree l mN_0 (head1 (Jvm.Cond.code mN_0 prog_32_method_4_code 5 none :: ws) ({ frames := 1, cells := 0, slots := 0, locals := 12 } : Room)) (fun a U => a = #[(.ref a1), (.ref a2), .null, (.double d4)] ∧ Z.Warmed39 U.vm ∧ U.heap = h0) (fun _ _ _ _ _ => True) (fun _ U o U' => ∃ v L, o = .returned v ∧ (Qc0 Z a1 a2 d4 h0 n0) v U'.heap L ∧ FrameEnd U o U' L ({ frames := 1, cells := 0, slots := 0, locals := 12 } : Room).cells ({ frames := 1, cells := 0, slots := 0, locals := 12 } : Room).slots) := by
  refine MetFree.of_bodySF (plainFor_of_name pn_0) hisR ?_
  intro p e s m args below meth c s₁ Bd hml0 hP hK
  obtain ⟨rfl, hZ, hh⟩ := hP
  have hx := Bd.exec
  have hby := Bd.bytes
  have hml : c.maxLocals = 5 := hml0
  have hown : s.vm.findClass "com/example/opt2/opt2/plan/Plan" = some m.cls := findClass_of_methodNamed Bd.named
  have hnm := (name_of_methodNamed Bd.named Bd.method).1
  have hlk := Bd.notSynchronized
  have X0 : Stand p l e ({ frames := 1, cells := 0, slots := 0, locals := 12 } : Room) s m #[(.ref a1), (.ref a2), .null, (.double d4)] below meth c s₁ [] 0 0 := Stand.of_body Bd
  have e0 : s₁.heap = h0 := by rw [← hh, Bd.state]; rfl
  have N0 := Fr.nil n0
  have KK := Keep.refl h0 [a1]
  show own_Ends p e below s FrameEnd (Qc0 Z a1 a2 d4 h0 n0) 0 0 (s₁.setTop (entryFrame m #[(.ref a1), (.ref a2), .null, (.double d4)] 5))
  refine own_of (U' := (s₁.setTop (mkF m 0 #[.val (.ref a1), .val (.ref a2), .val .null, .val (.double d4), .second] []))) (fun _ k => castTop (ef_c0 m a1 a2 d4) k) ?_
  refine own_aloadN X0 hx hby d2_0 rfl rfl ?_
  obtain ⟨T1, X1, e1, st1⟩ := initO X0 hx hZ hown (own_w hw 14 rfl) (own_w hw 15 rfl) (own_w hw 16 rfl) e0 (g := (mkF m 1 #[.val (.ref a1), .val (.ref a2), .val .null, .val (.double d4), .second] [(.ref a1)])) rfl (by rw [hml]; rfl) rfl (hb hby d2_1) (by decide) (W := 0) (by show 2 * 0 + _ ≤ _; exact Nat.le_of_eq rfl) (by decide)
  refine own_of (U' := (T1.setTop (mkF m 4 #[.val (.ref a1), .val (.ref a2), .val .null, .val (.double d4), .second] []))) (st1) ?_
  refine own_aloadN X1 hx hby d2_4 rfl rfl ?_
  refine own_aloadN X1 hx hby d2_5 rfl rfl ?_
  obtain ⟨T2, h2, X2, e2, W2, st2⟩ := putF X1 hx hZ hown (host := "") (Or.inl (own_w hw 17 rfl)) Via.refl e1 Fs E1 (Or.inr ⟨(own_w hw 18 rfl), rfl, hnm⟩) (own_w hw 5 rfl) (ty := (.array .int)) (by decide) rfl rfl (g := (mkF m 6 #[.val (.ref a1), .val (.ref a2), .val .null, .val (.double d4), .second] [(.ref a2), (.ref a1)])) rfl rfl (hb hby d2_6)
  replace Z0 := Nat.le_trans Z0 (Keep.of_wr W2).1
  replace E1 := E1.wr W2
  replace Fs := Fs.same W2
  replace Fm := Fm.other W2 (Or.inr (slot_ne (Or.inr (own_w hw 20 rfl)) (Or.inr (own_w hw 18 rfl)) (by decide) (t := (.array (.array .int))) (t' := (.array .int)) (by decide) (by decide)))
  replace Fe := Fe.other W2 (Or.inr (slot_ne (Or.inr (own_w hw 22 rfl)) (Or.inr (own_w hw 18 rfl)) (by decide) (t := .double) (t' := (.array .int)) (by decide) (by decide)))
  replace KK := KK.wr W2 (Or.inl (List.mem_of_getElem? (i := 0) rfl))
  have N2 := Fr.snoc X2 N0 g_a1
  refine own_of (U' := (T2.setTop (mkF m 9 #[.val (.ref a1), .val (.ref a2), .val .null, .val (.double d4), .second] []))) (st2) ?_
  refine own_aloadN X2 hx hby d2_9 rfl rfl ?_
  refine own_aloadN X2 hx hby d2_10 rfl rfl ?_
  obtain ⟨T3, h3, X3, e3, W3, st3⟩ := putF X2 hx hZ hown (host := "") (Or.inl (own_w hw 19 rfl)) Via.refl e2 Fm E1 (Or.inr ⟨(own_w hw 20 rfl), rfl, hnm⟩) (own_w hw 5 rfl) (ty := (.array (.array .int))) (by decide) rfl rfl (g := (mkF m 11 #[.val (.ref a1), .val (.ref a2), .val .null, .val (.double d4), .second] [.null, (.ref a1)])) rfl rfl (hb hby d2_11)
  replace Z0 := Nat.le_trans Z0 (Keep.of_wr W3).1
  replace E1 := E1.wr W3
  replace Fs := Fs.other W3 (Or.inr (slot_ne (Or.inr (own_w hw 18 rfl)) (Or.inr (own_w hw 20 rfl)) (by decide) (t := (.array .int)) (t' := (.array (.array .int))) (by decide) (by decide)))
  replace Fm := Fm.same W3
  replace Fe := Fe.other W3 (Or.inr (slot_ne (Or.inr (own_w hw 22 rfl)) (Or.inr (own_w hw 20 rfl)) (by decide) (t := .double) (t' := (.array (.array .int))) (by decide) (by decide)))
  replace KK := KK.wr W3 (Or.inl (List.mem_of_getElem? (i := 0) rfl))
  have N3 := Fr.snoc X3 N2 g_a1
  refine own_of (U' := (T3.setTop (mkF m 14 #[.val (.ref a1), .val (.ref a2), .val .null, .val (.double d4), .second] []))) (st3) ?_
  refine own_aloadN X3 hx hby d2_14 rfl rfl ?_
  refine own_dloadN X3 hx hby d2_15 rfl ?_
  obtain ⟨T4, h4, X4, e4, W4, st4⟩ := putF X3 hx hZ hown (host := "") (Or.inl (own_w hw 21 rfl)) Via.refl e3 Fe E1 (Or.inr ⟨(own_w hw 22 rfl), rfl, hnm⟩) (own_w hw 5 rfl) (ty := .double) (by decide) rfl rfl (g := (mkF m 16 #[.val (.ref a1), .val (.ref a2), .val .null, .val (.double d4), .second] [(.double d4), (.ref a1)])) rfl rfl (hb hby d2_16)
  replace Z0 := Nat.le_trans Z0 (Keep.of_wr W4).1
  replace E1 := E1.wr W4
  replace Fs := Fs.other W4 (Or.inr (slot_ne (Or.inr (own_w hw 18 rfl)) (Or.inr (own_w hw 22 rfl)) (by decide) (t := (.array .int)) (t' := .double) (by decide) (by decide)))
  replace Fm := Fm.other W4 (Or.inr (slot_ne (Or.inr (own_w hw 20 rfl)) (Or.inr (own_w hw 22 rfl)) (by decide) (t := (.array (.array .int))) (t' := .double) (by decide) (by decide)))
  replace Fe := Fe.same W4
  replace KK := KK.wr W4 (Or.inl (List.mem_of_getElem? (i := 0) rfl))
  have N4 := Fr.snoc X4 N3 g_a1
  refine own_of (U' := (T4.setTop (mkF m 19 #[.val (.ref a1), .val (.ref a2), .val .null, .val (.double d4), .second] []))) (st4) ?_
  exact own_ret0 X4 hx hlk Bd.returns (hb hby d2_19) (by decide) (by decide) (by rw [e4]; exact ⟨rfl, N4, KK, Fm⟩)
theorem ef_c1 (m : MethodId) (x0 : Addr) (x1 : Addr) (x2 : Addr) (x3 : UInt64) : entryFrame m #[(.ref x0), (.ref x1), (.ref x2), (.double x3)] 5 = mkF m 0 #[.val (.ref x0), .val (.ref x1), .val (.ref x2), .val (.double x3), .second] [] := by first | (simp [entryFrame, mkF, argsToLocals, Value.category]; done) | rfl
def Qc1 (Z : State) (a1 a2 a3 : Addr) (d4 : UInt64) (h0 : Heap) (n0 : Nat) (v : Option Value) (h : Heap) (L : List Loc) : Prop := v = none ∧ Fr n0 L ∧ Keep h0 h [a1] ∧ Fld Z h a1 "com/example/opt2/opt2/plan/Plan" "machines" "[[I" (.ref a3)
set_option maxRecDepth 65536 in
set_option maxHeartbeats 40000000 in
theorem rmc1 (l : Launch) (Z : State) (a0 : Array Value) (hw : ∀ d ∈ tables_1, d.before a0 Z = true) (ws : List Jvm.Cond) (a1 a2 a3 : Addr) (d4 : UInt64) (h0 : Heap) (n0 : Nat) (Z0 : n0 ≤ h0.size) (E1 : Exa Z h0 a1 "com/example/opt2/opt2/plan/Plan") (Fs : Fld Z h0 a1 "com/example/opt2/opt2/plan/Plan" "sites" "[I" .null) (Fm : Fld Z h0 a1 "com/example/opt2/opt2/plan/Plan" "machines" "[[I" .null) (Fe : Fld Z h0 a1 "com/example/opt2/opt2/plan/Plan" "estimatedSeconds" "D" (.double (0 : UInt64))) (g_a1 : n0 ≤ a1) :
    MetFree l mN_0 (head1 (Jvm.Cond.code mN_0 prog_32_method_4_code 5 none :: ws) ({ frames := 1, cells := 0, slots := 0, locals := 12 } : Room)) (fun a U => a = #[(.ref a1), (.ref a2), (.ref a3), (.double d4)] ∧ Z.Warmed39 U.vm ∧ U.heap = h0) (fun _ _ _ _ _ => True) (fun _ U o U' => ∃ v L, o = .returned v ∧ (Qc1 Z a1 a2 a3 d4 h0 n0) v U'.heap L ∧ FrameEnd U o U' L ({ frames := 1, cells := 0, slots := 0, locals := 12 } : Room).cells ({ frames := 1, cells := 0, slots := 0, locals := 12 } : Room).slots) := by
  refine MetFree.of_bodySF (plainFor_of_name pn_0) hisR ?_
  intro p e s m args below meth c s₁ Bd hml0 hP hK
  obtain ⟨rfl, hZ, hh⟩ := hP
  have hx := Bd.exec
  have hby := Bd.bytes
  have hml : c.maxLocals = 5 := hml0
  have hown : s.vm.findClass "com/example/opt2/opt2/plan/Plan" = some m.cls := findClass_of_methodNamed Bd.named
  have hnm := (name_of_methodNamed Bd.named Bd.method).1
  have hlk := Bd.notSynchronized
  have X0 : Stand p l e ({ frames := 1, cells := 0, slots := 0, locals := 12 } : Room) s m #[(.ref a1), (.ref a2), (.ref a3), (.double d4)] below meth c s₁ [] 0 0 := Stand.of_body Bd
  have e0 : s₁.heap = h0 := by rw [← hh, Bd.state]; rfl
  have N0 := Fr.nil n0
  have KK := Keep.refl h0 [a1]
  show own_Ends p e below s FrameEnd (Qc1 Z a1 a2 a3 d4 h0 n0) 0 0 (s₁.setTop (entryFrame m #[(.ref a1), (.ref a2), (.ref a3), (.double d4)] 5))
  refine own_of (U' := (s₁.setTop (mkF m 0 #[.val (.ref a1), .val (.ref a2), .val (.ref a3), .val (.double d4), .second] []))) (fun _ k => castTop (ef_c1 m a1 a2 a3 d4) k) ?_
  refine own_aloadN X0 hx hby d2_0 rfl rfl ?_
  obtain ⟨T5, X5, e5, st5⟩ := initO X0 hx hZ hown (own_w hw 14 rfl) (own_w hw 15 rfl) (own_w hw 16 rfl) e0 (g := (mkF m 1 #[.val (.ref a1), .val (.ref a2), .val (.ref a3), .val (.double d4), .second] [(.ref a1)])) rfl (by rw [hml]; rfl) rfl (hb hby d2_1) (by decide) (W := 0) (by show 2 * 0 + _ ≤ _; exact Nat.le_of_eq rfl) (by decide)
  refine own_of (U' := (T5.setTop (mkF m 4 #[.val (.ref a1), .val (.ref a2), .val (.ref a3), .val (.double d4), .second] []))) (st5) ?_
  refine own_aloadN X5 hx hby d2_4 rfl rfl ?_
  refine own_aloadN X5 hx hby d2_5 rfl rfl ?_
  obtain ⟨T6, h6, X6, e6, W6, st6⟩ := putF X5 hx hZ hown (host := "") (Or.inl (own_w hw 17 rfl)) Via.refl e5 Fs E1 (Or.inr ⟨(own_w hw 18 rfl), rfl, hnm⟩) (own_w hw 5 rfl) (ty := (.array .int)) (by decide) rfl rfl (g := (mkF m 6 #[.val (.ref a1), .val (.ref a2), .val (.ref a3), .val (.double d4), .second] [(.ref a2), (.ref a1)])) rfl rfl (hb hby d2_6)
  replace Z0 := Nat.le_trans Z0 (Keep.of_wr W6).1
  replace E1 := E1.wr W6
  replace Fs := Fs.same W6
  replace Fm := Fm.other W6 (Or.inr (slot_ne (Or.inr (own_w hw 20 rfl)) (Or.inr (own_w hw 18 rfl)) (by decide) (t := (.array (.array .int))) (t' := (.array .int)) (by decide) (by decide)))
  replace Fe := Fe.other W6 (Or.inr (slot_ne (Or.inr (own_w hw 22 rfl)) (Or.inr (own_w hw 18 rfl)) (by decide) (t := .double) (t' := (.array .int)) (by decide) (by decide)))
  replace KK := KK.wr W6 (Or.inl (List.mem_of_getElem? (i := 0) rfl))
  have N6 := Fr.snoc X6 N0 g_a1
  refine own_of (U' := (T6.setTop (mkF m 9 #[.val (.ref a1), .val (.ref a2), .val (.ref a3), .val (.double d4), .second] []))) (st6) ?_
  refine own_aloadN X6 hx hby d2_9 rfl rfl ?_
  refine own_aloadN X6 hx hby d2_10 rfl rfl ?_
  obtain ⟨T7, h7, X7, e7, W7, st7⟩ := putF X6 hx hZ hown (host := "") (Or.inl (own_w hw 19 rfl)) Via.refl e6 Fm E1 (Or.inr ⟨(own_w hw 20 rfl), rfl, hnm⟩) (own_w hw 5 rfl) (ty := (.array (.array .int))) (by decide) rfl rfl (g := (mkF m 11 #[.val (.ref a1), .val (.ref a2), .val (.ref a3), .val (.double d4), .second] [(.ref a3), (.ref a1)])) rfl rfl (hb hby d2_11)
  replace Z0 := Nat.le_trans Z0 (Keep.of_wr W7).1
  replace E1 := E1.wr W7
  replace Fs := Fs.other W7 (Or.inr (slot_ne (Or.inr (own_w hw 18 rfl)) (Or.inr (own_w hw 20 rfl)) (by decide) (t := (.array .int)) (t' := (.array (.array .int))) (by decide) (by decide)))
  replace Fm := Fm.same W7
  replace Fe := Fe.other W7 (Or.inr (slot_ne (Or.inr (own_w hw 22 rfl)) (Or.inr (own_w hw 20 rfl)) (by decide) (t := .double) (t' := (.array (.array .int))) (by decide) (by decide)))
  replace KK := KK.wr W7 (Or.inl (List.mem_of_getElem? (i := 0) rfl))
  have N7 := Fr.snoc X7 N6 g_a1
  refine own_of (U' := (T7.setTop (mkF m 14 #[.val (.ref a1), .val (.ref a2), .val (.ref a3), .val (.double d4), .second] []))) (st7) ?_
  refine own_aloadN X7 hx hby d2_14 rfl rfl ?_
  refine own_dloadN X7 hx hby d2_15 rfl ?_
  obtain ⟨T8, h8, X8, e8, W8, st8⟩ := putF X7 hx hZ hown (host := "") (Or.inl (own_w hw 21 rfl)) Via.refl e7 Fe E1 (Or.inr ⟨(own_w hw 22 rfl), rfl, hnm⟩) (own_w hw 5 rfl) (ty := .double) (by decide) rfl rfl (g := (mkF m 16 #[.val (.ref a1), .val (.ref a2), .val (.ref a3), .val (.double d4), .second] [(.double d4), (.ref a1)])) rfl rfl (hb hby d2_16)
  replace Z0 := Nat.le_trans Z0 (Keep.of_wr W8).1
  replace E1 := E1.wr W8
  replace Fs := Fs.other W8 (Or.inr (slot_ne (Or.inr (own_w hw 18 rfl)) (Or.inr (own_w hw 22 rfl)) (by decide) (t := (.array .int)) (t' := .double) (by decide) (by decide)))
  replace Fm := Fm.other W8 (Or.inr (slot_ne (Or.inr (own_w hw 20 rfl)) (Or.inr (own_w hw 22 rfl)) (by decide) (t := (.array (.array .int))) (t' := .double) (by decide) (by decide)))
  replace Fe := Fe.same W8
  replace KK := KK.wr W8 (Or.inl (List.mem_of_getElem? (i := 0) rfl))
  have N8 := Fr.snoc X8 N7 g_a1
  refine own_of (U' := (T8.setTop (mkF m 19 #[.val (.ref a1), .val (.ref a2), .val (.ref a3), .val (.double d4), .second] []))) (st8) ?_
  exact own_ret0 X8 hx hlk Bd.returns (hb hby d2_19) (by decide) (by decide) (by rw [e8]; exact ⟨rfl, N8, KK, Fm⟩)
abbrev mN_1 : MethodName := ⟨"com/example/opt2/opt2/plan/Plan", "<init>", "([I)V"⟩
theorem pd_0 : parseMethodDescriptor "([I[[ID)V" = some ⟨[(.array .int), (.array (.array .int)), .double], none⟩ := by decide +kernel
theorem d1_0 : decode prog_32_method_1_code 0 = .ok (.aload_n 0, 1) := by decide +kernel
theorem d1_1 : decode prog_32_method_1_code 1 = .ok (.aload_n 1, 1) := by decide +kernel
theorem d1_2 : decode prog_32_method_1_code 2 = .ok (.aconst_null, 1) := by decide +kernel
theorem d1_3 : decode prog_32_method_1_code 3 = .ok (.ldc2_w 3, 3) := by decide +kernel
theorem d1_6 : decode prog_32_method_1_code 6 = .ok (.invokespecial 5, 3) := by decide +kernel
theorem d1_9 : decode prog_32_method_1_code 9 = .ok (.return_, 1) := by decide +kernel
theorem ef_p1 (m : MethodId) (x0 : Addr) (x1 : Addr) : entryFrame m #[(.ref x0), (.ref x1)] 2 = mkF m 0 #[.val (.ref x0), .val (.ref x1)] [] := by first | (simp [entryFrame, mkF, argsToLocals, Value.category]; done) | rfl
def Qp1 (Z : State) (a1 a2 : Addr) (h0 : Heap) (n0 : Nat) (v : Option Value) (h : Heap) (L : List Loc) : Prop := v = none ∧ Fr n0 L ∧ Keep h0 h [a1] ∧ Fld Z h a1 "com/example/opt2/opt2/plan/Plan" "machines" "[[I" .null
set_option maxRecDepth 65536 in
set_option maxHeartbeats 40000000 in
theorem rmp1 (l : Launch) (Z : State) (a0 : Array Value) (hw : ∀ d ∈ tables_1, d.before a0 Z = true) (ws : List Jvm.Cond) (a1 a2 : Addr) (h0 : Heap) (n0 : Nat) (Z0 : n0 ≤ h0.size) (E1 : Exa Z h0 a1 "com/example/opt2/opt2/plan/Plan") (Fs : Fld Z h0 a1 "com/example/opt2/opt2/plan/Plan" "sites" "[I" .null) (Fm : Fld Z h0 a1 "com/example/opt2/opt2/plan/Plan" "machines" "[[I" .null) (Fe : Fld Z h0 a1 "com/example/opt2/opt2/plan/Plan" "estimatedSeconds" "D" (.double (0 : UInt64))) (g_a1 : n0 ≤ a1) :
    MetFree l mN_1 (head1 (Jvm.Cond.code mN_1 prog_32_method_1_code 2 none :: ws) ({ frames := 2, cells := 0, slots := 0, locals := 28 } : Room)) (fun a U => a = #[(.ref a1), (.ref a2)] ∧ Z.Warmed39 U.vm ∧ U.heap = h0) (fun _ _ _ _ _ => True) (fun _ U o U' => ∃ v L, o = .returned v ∧ (Qp1 Z a1 a2 h0 n0) v U'.heap L ∧ FrameEnd U o U' L ({ frames := 2, cells := 0, slots := 0, locals := 28 } : Room).cells ({ frames := 2, cells := 0, slots := 0, locals := 28 } : Room).slots) := by
  refine MetFree.of_bodySF (plainFor_of_name pn_0) hisR ?_
  intro p e s m args below meth c s₁ Bd hml0 hP hK
  obtain ⟨rfl, hZ, hh⟩ := hP
  have hx := Bd.exec
  have hby := Bd.bytes
  have hml : c.maxLocals = 2 := hml0
  have hown : s.vm.findClass "com/example/opt2/opt2/plan/Plan" = some m.cls := findClass_of_methodNamed Bd.named
  have hnm := (name_of_methodNamed Bd.named Bd.method).1
  have hlk := Bd.notSynchronized
  have X0 : Stand p l e ({ frames := 2, cells := 0, slots := 0, locals := 28 } : Room) s m #[(.ref a1), (.ref a2)] below meth c s₁ [] 0 0 := Stand.of_body Bd
  have e0 : s₁.heap = h0 := by rw [← hh, Bd.state]; rfl
  have N0 := Fr.nil n0
  have KK := Keep.refl h0 [a1]
  show own_Ends p e below s FrameEnd (Qp1 Z a1 a2 h0 n0) 0 0 (s₁.setTop (entryFrame m #[(.ref a1), (.ref a2)] 2))
  refine own_of (U' := (s₁.setTop (mkF m 0 #[.val (.ref a1), .val (.ref a2)] []))) (fun _ k => castTop (ef_p1 m a1 a2) k) ?_
  refine own_aloadN X0 hx hby d1_0 rfl rfl ?_
  refine own_aloadN X0 hx hby d1_1 rfl rfl ?_
  refine own_aconstNull X0 hx hby d1_2 ?_
  refine own_of (U' := (s₁.setTop (mkF m 6 #[.val (.ref a1), .val (.ref a2)] [(.double (9221120237041090560 : UInt64)), .null, (.ref a2), (.ref a1)]))) (X0.ldc2DoubleC hx hown (mvT hZ (own_w hw 10 rfl)) (g := (mkF m 3 #[.val (.ref a1), .val (.ref a2)] [.null, (.ref a2), (.ref a1)])) rfl (hb hby d1_3)) ?_
  obtain ⟨_, _, ⟨T9, L9, k9, n9⟩, -, X9, ⟨Lc9, hQ9, l9, y9, z9⟩, st9⟩ := X0.specialBack hx (y := mN_0) rfl hown (mvT hZ (own_w hw 11 rfl)) (mvT hZ (own_w hw 12 rfl)) (mvT hZ (own_w hw 13 rfl)) (by decide) (backOf (W := 0) (rmc0 l Z a0 hw [] a1 a2 (9221120237041090560 : UInt64) h0 n0 Z0 E1 Fs Fm Fe g_a1) hZ (own_w hw 13 rfl) (own_w hw 6 rfl) (by decide) (by decide)) (g := (mkF m 6 #[.val (.ref a1), .val (.ref a2)] [(.double (9221120237041090560 : UInt64)), .null, (.ref a2), (.ref a1)])) rfl (by rw [hml]; rfl) (Steps.refl _) (a := a1) (argsL := [(.ref a2), .null, (.double (9221120237041090560 : UInt64))]) (rest := []) (lenOf pd_0 rfl) rfl (by show 2 * 0 + _ ≤ _; exact Nat.le_of_eq rfl) (hb hby d1_6) (fun _ _ => ⟨rfl, e0, (by decide : 0 + 0 ≤ _), (by decide : 0 + 0 ≤ _)⟩)
  dsimp only [Pt.U, Pt.locs, Pt.cells, Pt.slots] at X9 l9 y9 z9 st9 hQ9
  subst l9 y9 z9
  obtain ⟨rfl, Nq9, Kp9, Fm9⟩ := hQ9
  have N9 := Fr.app N0 Nq9
  replace Z0 := Nat.le_trans Z0 Kp9.1
  replace E1 := E1.keep Kp9
  replace KK := KK.trans Kp9 (allS (Or.inl (List.mem_of_getElem? (i := 0) rfl)) all0)
  refine own_of (U' := (T9.setTop (mkF m 9 #[.val (.ref a1), .val (.ref a2)] []))) (fun _ k => st9.trans k) ?_
  exact own_ret0 X9 hx hlk Bd.returns (hb hby d1_9) (by decide) (by decide) (⟨rfl, N9, KK, Fm9⟩)
abbrev mN_2 : MethodName := ⟨"com/example/opt2/opt2/plan/Plan", "<init>", "([I[[I)V"⟩
theorem d4_0 : decode prog_32_method_2_code 0 = .ok (.aload_n 0, 1) := by decide +kernel
theorem d4_1 : decode prog_32_method_2_code 1 = .ok (.aload_n 1, 1) := by decide +kernel
theorem d4_2 : decode prog_32_method_2_code 2 = .ok (.aload_n 2, 1) := by decide +kernel
theorem d4_3 : decode prog_32_method_2_code 3 = .ok (.ldc2_w 3, 3) := by decide +kernel
theorem d4_6 : decode prog_32_method_2_code 6 = .ok (.invokespecial 5, 3) := by decide +kernel
theorem d4_9 : decode prog_32_method_2_code 9 = .ok (.return_, 1) := by decide +kernel
theorem ef_p2 (m : MethodId) (x0 : Addr) (x1 : Addr) (x2 : Addr) : entryFrame m #[(.ref x0), (.ref x1), (.ref x2)] 3 = mkF m 0 #[.val (.ref x0), .val (.ref x1), .val (.ref x2)] [] := by first | (simp [entryFrame, mkF, argsToLocals, Value.category]; done) | rfl
def Qp2 (Z : State) (a1 a2 a3 : Addr) (h0 : Heap) (n0 : Nat) (v : Option Value) (h : Heap) (L : List Loc) : Prop := v = none ∧ Fr n0 L ∧ Keep h0 h [a1] ∧ Fld Z h a1 "com/example/opt2/opt2/plan/Plan" "machines" "[[I" (.ref a3)
set_option maxRecDepth 65536 in
set_option maxHeartbeats 40000000 in
theorem rmp2 (l : Launch) (Z : State) (a0 : Array Value) (hw : ∀ d ∈ tables_1, d.before a0 Z = true) (ws : List Jvm.Cond) (a1 a2 a3 : Addr) (h0 : Heap) (n0 : Nat) (Z0 : n0 ≤ h0.size) (E1 : Exa Z h0 a1 "com/example/opt2/opt2/plan/Plan") (Fs : Fld Z h0 a1 "com/example/opt2/opt2/plan/Plan" "sites" "[I" .null) (Fm : Fld Z h0 a1 "com/example/opt2/opt2/plan/Plan" "machines" "[[I" .null) (Fe : Fld Z h0 a1 "com/example/opt2/opt2/plan/Plan" "estimatedSeconds" "D" (.double (0 : UInt64))) (g_a1 : n0 ≤ a1) :
    MetFree l mN_2 (head1 (Jvm.Cond.code mN_2 prog_32_method_2_code 3 none :: ws) ({ frames := 2, cells := 0, slots := 0, locals := 28 } : Room)) (fun a U => a = #[(.ref a1), (.ref a2), (.ref a3)] ∧ Z.Warmed39 U.vm ∧ U.heap = h0) (fun _ _ _ _ _ => True) (fun _ U o U' => ∃ v L, o = .returned v ∧ (Qp2 Z a1 a2 a3 h0 n0) v U'.heap L ∧ FrameEnd U o U' L ({ frames := 2, cells := 0, slots := 0, locals := 28 } : Room).cells ({ frames := 2, cells := 0, slots := 0, locals := 28 } : Room).slots) := by
  refine MetFree.of_bodySF (plainFor_of_name pn_0) hisR ?_
  intro p e s m args below meth c s₁ Bd hml0 hP hK
  obtain ⟨rfl, hZ, hh⟩ := hP
  have hx := Bd.exec
  have hby := Bd.bytes
  have hml : c.maxLocals = 3 := hml0
  have hown : s.vm.findClass "com/example/opt2/opt2/plan/Plan" = some m.cls := findClass_of_methodNamed Bd.named
  have hnm := (name_of_methodNamed Bd.named Bd.method).1
  have hlk := Bd.notSynchronized
  have X0 : Stand p l e ({ frames := 2, cells := 0, slots := 0, locals := 28 } : Room) s m #[(.ref a1), (.ref a2), (.ref a3)] below meth c s₁ [] 0 0 := Stand.of_body Bd
  have e0 : s₁.heap = h0 := by rw [← hh, Bd.state]; rfl
  have N0 := Fr.nil n0
  have KK := Keep.refl h0 [a1]
  show own_Ends p e below s FrameEnd (Qp2 Z a1 a2 a3 h0 n0) 0 0 (s₁.setTop (entryFrame m #[(.ref a1), (.ref a2), (.ref a3)] 3))
  refine own_of (U' := (s₁.setTop (mkF m 0 #[.val (.ref a1), .val (.ref a2), .val (.ref a3)] []))) (fun _ k => castTop (ef_p2 m a1 a2 a3) k) ?_
  refine own_aloadN X0 hx hby d4_0 rfl rfl ?_
  refine own_aloadN X0 hx hby d4_1 rfl rfl ?_
  refine own_aloadN X0 hx hby d4_2 rfl rfl ?_
  refine own_of (U' := (s₁.setTop (mkF m 6 #[.val (.ref a1), .val (.ref a2), .val (.ref a3)] [(.double (9221120237041090560 : UInt64)), (.ref a3), (.ref a2), (.ref a1)]))) (X0.ldc2DoubleC hx hown (mvT hZ (own_w hw 10 rfl)) (g := (mkF m 3 #[.val (.ref a1), .val (.ref a2), .val (.ref a3)] [(.ref a3), (.ref a2), (.ref a1)])) rfl (hb hby d4_3)) ?_
  obtain ⟨_, _, ⟨T10, L10, k10, n10⟩, -, X10, ⟨Lc10, hQ10, l10, y10, z10⟩, st10⟩ := X0.specialBack hx (y := mN_0) rfl hown (mvT hZ (own_w hw 11 rfl)) (mvT hZ (own_w hw 12 rfl)) (mvT hZ (own_w hw 13 rfl)) (by decide) (backOf (W := 0) (rmc1 l Z a0 hw [] a1 a2 a3 (9221120237041090560 : UInt64) h0 n0 Z0 E1 Fs Fm Fe g_a1) hZ (own_w hw 13 rfl) (own_w hw 6 rfl) (by decide) (by decide)) (g := (mkF m 6 #[.val (.ref a1), .val (.ref a2), .val (.ref a3)] [(.double (9221120237041090560 : UInt64)), (.ref a3), (.ref a2), (.ref a1)])) rfl (by rw [hml]; rfl) (Steps.refl _) (a := a1) (argsL := [(.ref a2), (.ref a3), (.double (9221120237041090560 : UInt64))]) (rest := []) (lenOf pd_0 rfl) rfl (by show 2 * 0 + _ ≤ _; exact Nat.le_of_eq rfl) (hb hby d4_6) (fun _ _ => ⟨rfl, e0, (by decide : 0 + 0 ≤ _), (by decide : 0 + 0 ≤ _)⟩)
  dsimp only [Pt.U, Pt.locs, Pt.cells, Pt.slots] at X10 l10 y10 z10 st10 hQ10
  subst l10 y10 z10
  obtain ⟨rfl, Nq10, Kp10, Fm10⟩ := hQ10
  have N10 := Fr.app N0 Nq10
  replace Z0 := Nat.le_trans Z0 Kp10.1
  replace E1 := E1.keep Kp10
  replace KK := KK.trans Kp10 (allS (Or.inl (List.mem_of_getElem? (i := 0) rfl)) all0)
  refine own_of (U' := (T10.setTop (mkF m 9 #[.val (.ref a1), .val (.ref a2), .val (.ref a3)] []))) (fun _ k => st10.trans k) ?_
  exact own_ret0 X10 hx hlk Bd.returns (hb hby d4_9) (by decide) (by decide) (⟨rfl, N10, KK, Fm10⟩)
abbrev mN_3 : MethodName := ⟨"com/example/opt2/opt2/plan/Plan", "machines", "(I)[I"⟩
theorem d5_0 : decode prog_32_method_6_code 0 = .ok (.aload_n 0, 1) := by decide +kernel
theorem d5_1 : decode prog_32_method_6_code 1 = .ok (.getfield 20, 3) := by decide +kernel
theorem d5_4 : decode prog_32_method_6_code 4 = .ok (.ifnonnull 9, 3) := by decide +kernel
theorem d5_7 : decode prog_32_method_6_code 7 = .ok (.getstatic 28, 3) := by decide +kernel
theorem d5_10 : decode prog_32_method_6_code 10 = .ok (.goto 9, 3) := by decide +kernel
theorem d5_19 : decode prog_32_method_6_code 19 = .ok (.areturn, 1) := by decide +kernel
theorem ef_mn (m : MethodId) (x0 : Addr) (x1 : Int32) : entryFrame m #[(.ref x0), (.int x1)] 2 = mkF m 0 #[.val (.ref x0), .val (.int x1)] [] := by first | (simp [entryFrame, mkF, argsToLocals, Value.category]; done) | rfl
def Qmn (kN : Addr) (h0 : Heap) (n0 : Nat) (v : Option Value) (h : Heap) (L : List Loc) : Prop := v = some (.ref kN) ∧ Fr n0 L ∧ h = h0
set_option maxRecDepth 65536 in
set_option maxHeartbeats 40000000 in
theorem rmmn (l : Launch) (Z : State) (a0 : Array Value) (hw : ∀ d ∈ tables_1, d.before a0 Z = true) (ws : List Jvm.Cond) (a1 : Addr) (p2 : Int32) (kN : Addr) (h0 : Heap) (n0 : Nat) (Z0 : n0 ≤ h0.size) (F1 : Fld Z h0 a1 "com/example/opt2/opt2/plan/Plan" "machines" "[[I" .null) (SN : Sta Z h0 "com/example/opt2/opt2/plan/Plan" "NO_MACHINES" "[I" (.ref kN)) :
    MetFree l mN_3 (head1 (Jvm.Cond.code mN_3 prog_32_method_6_code 2 (some (.array .int)) :: ws) ({ frames := 0, cells := 0, slots := 0, locals := 0 } : Room)) (fun a U => a = #[(.ref a1), (.int p2)] ∧ Z.Warmed39 U.vm ∧ U.heap = h0) (fun _ _ _ _ _ => True) (fun _ U o U' => ∃ v L, o = .returned v ∧ (Qmn kN h0 n0) v U'.heap L ∧ FrameEnd U o U' L ({ frames := 0, cells := 0, slots := 0, locals := 0 } : Room).cells ({ frames := 0, cells := 0, slots := 0, locals := 0 } : Room).slots) := by
  refine MetFree.of_bodySF (plainFor_of_name pn_0) hisR ?_
  intro p e s m args below meth c s₁ Bd hml0 hP hK
  obtain ⟨rfl, hZ, hh⟩ := hP
  have hx := Bd.exec
  have hby := Bd.bytes
  have hml : c.maxLocals = 2 := hml0
  have hown : s.vm.findClass "com/example/opt2/opt2/plan/Plan" = some m.cls := findClass_of_methodNamed Bd.named
  have hnm := (name_of_methodNamed Bd.named Bd.method).1
  have hlk := Bd.notSynchronized
  have X0 : Stand p l e ({ frames := 0, cells := 0, slots := 0, locals := 0 } : Room) s m #[(.ref a1), (.int p2)] below meth c s₁ [] 0 0 := Stand.of_body Bd
  have e0 : s₁.heap = h0 := by rw [← hh, Bd.state]; rfl
  have N0 := Fr.nil n0
  show own_Ends p e below s FrameEnd (Qmn kN h0 n0) 0 0 (s₁.setTop (entryFrame m #[(.ref a1), (.int p2)] 2))
  refine own_of (U' := (s₁.setTop (mkF m 0 #[.val (.ref a1), .val (.int p2)] []))) (fun _ k => castTop (ef_mn m a1 p2) k) ?_
  refine own_aloadN X0 hx hby d5_0 rfl rfl ?_
  obtain ⟨T11, X11, e11, st11⟩ := getF X0 hx hZ hown (host := "") (Or.inl (own_w hw 19 rfl)) Via.refl e0 F1 (g := (mkF m 1 #[.val (.ref a1), .val (.int p2)] [(.ref a1)])) rfl rfl (hb hby d5_1)
  refine own_of (U' := (T11.setTop (mkF m 4 #[.val (.ref a1), .val (.int p2)] [.null]))) (st11) ?_
  refine own_ifnonnullNo X11 hx hby d5_4 ?_
  obtain ⟨T12, X12, e12, st12⟩ := getS2 X11 hx hZ hown (host := "") (Or.inl (own_w hw 31 rfl)) Via.refl e11 SN (g := (mkF m 7 #[.val (.ref a1), .val (.int p2)] [])) rfl (hb hby d5_7)
  refine own_of (U' := (T12.setTop (mkF m 10 #[.val (.ref a1), .val (.int p2)] [(.ref kN)]))) (st12) ?_
  refine own_goto X12 hx hby 10 19 d5_10 (by decide) (by decide) ?_
  exact own_retA X12 hx hlk Bd.returns rfl rfl (hb hby d5_19) (by decide) (by decide) (⟨rfl, N0, e12⟩)
theorem d5_13 : decode prog_32_method_6_code 13 = .ok (.aload_n 0, 1) := by decide +kernel
theorem d5_14 : decode prog_32_method_6_code 14 = .ok (.getfield 20, 3) := by decide +kernel
theorem d5_17 : decode prog_32_method_6_code 17 = .ok (.iload_n 1, 1) := by decide +kernel
theorem d5_18 : decode prog_32_method_6_code 18 = .ok (.aaload, 1) := by decide +kernel
theorem ef_m0 (m : MethodId) (x0 : Addr) : entryFrame m #[(.ref x0), (.int (0 : Int32))] 2 = mkF m 0 #[.val (.ref x0), .val (.int (0 : Int32))] [] := by first | (simp [entryFrame, mkF, argsToLocals, Value.category]; done) | rfl
def Qm0 (m0 m1 m2 : Addr) (h0 : Heap) (n0 : Nat) (v : Option Value) (h : Heap) (L : List Loc) : Prop := v = some (.ref m0) ∧ Fr n0 L ∧ h = h0
set_option maxRecDepth 65536 in
set_option maxHeartbeats 40000000 in
theorem rmm0 (l : Launch) (Z : State) (a0 : Array Value) (hw : ∀ d ∈ tables_1, d.before a0 Z = true) (ws : List Jvm.Cond) (a1 a2 : Addr) (kA : ClassId) (m0 m1 m2 : Addr) (h0 : Heap) (n0 : Nat) (Z0 : n0 ≤ h0.size) (F1 : Fld Z h0 a1 "com/example/opt2/opt2/plan/Plan" "machines" "[[I" (.ref a2)) (V1 : Arv Z h0 a2 kA (.array .int) (3 : Int32) [.ref m0, .ref m1, .ref m2] .null) :
    MetFree l mN_3 (head1 (Jvm.Cond.code mN_3 prog_32_method_6_code 2 (some (.array .int)) :: ws) ({ frames := 0, cells := 0, slots := 0, locals := 0 } : Room)) (fun a U => a = #[(.ref a1), (.int (0 : Int32))] ∧ Z.Warmed39 U.vm ∧ U.heap = h0) (fun _ _ _ _ _ => True) (fun _ U o U' => ∃ v L, o = .returned v ∧ (Qm0 m0 m1 m2 h0 n0) v U'.heap L ∧ FrameEnd U o U' L ({ frames := 0, cells := 0, slots := 0, locals := 0 } : Room).cells ({ frames := 0, cells := 0, slots := 0, locals := 0 } : Room).slots) := by
  refine MetFree.of_bodySF (plainFor_of_name pn_0) hisR ?_
  intro p e s m args below meth c s₁ Bd hml0 hP hK
  obtain ⟨rfl, hZ, hh⟩ := hP
  have hx := Bd.exec
  have hby := Bd.bytes
  have hml : c.maxLocals = 2 := hml0
  have hown : s.vm.findClass "com/example/opt2/opt2/plan/Plan" = some m.cls := findClass_of_methodNamed Bd.named
  have hnm := (name_of_methodNamed Bd.named Bd.method).1
  have hlk := Bd.notSynchronized
  have X0 : Stand p l e ({ frames := 0, cells := 0, slots := 0, locals := 0 } : Room) s m #[(.ref a1), (.int (0 : Int32))] below meth c s₁ [] 0 0 := Stand.of_body Bd
  have e0 : s₁.heap = h0 := by rw [← hh, Bd.state]; rfl
  have N0 := Fr.nil n0
  show own_Ends p e below s FrameEnd (Qm0 m0 m1 m2 h0 n0) 0 0 (s₁.setTop (entryFrame m #[(.ref a1), (.int (0 : Int32))] 2))
  refine own_of (U' := (s₁.setTop (mkF m 0 #[.val (.ref a1), .val (.int (0 : Int32))] []))) (fun _ k => castTop (ef_m0 m a1) k) ?_
  refine own_aloadN X0 hx hby d5_0 rfl rfl ?_
  obtain ⟨T13, X13, e13, st13⟩ := getF X0 hx hZ hown (host := "") (Or.inl (own_w hw 19 rfl)) Via.refl e0 F1 (g := (mkF m 1 #[.val (.ref a1), .val (.int (0 : Int32))] [(.ref a1)])) rfl rfl (hb hby d5_1)
  refine own_of (U' := (T13.setTop (mkF m 4 #[.val (.ref a1), .val (.int (0 : Int32))] [(.ref a2)]))) (st13) ?_
  refine own_ifnonnullYes X13 hx hby 4 13 d5_4 (by decide) (by decide) ?_
  refine own_aloadN X13 hx hby d5_13 rfl rfl ?_
  obtain ⟨T14, X14, e14, st14⟩ := getF X13 hx hZ hown (host := "") (Or.inl (own_w hw 19 rfl)) Via.refl e13 F1 (g := (mkF m 14 #[.val (.ref a1), .val (.int (0 : Int32))] [(.ref a1)])) rfl rfl (hb hby d5_14)
  refine own_of (U' := (T14.setTop (mkF m 17 #[.val (.ref a1), .val (.int (0 : Int32))] [(.ref a2)]))) (st14) ?_
  refine own_iloadN X14 hx hby d5_17 rfl ?_
  obtain ⟨cl15, Ar15, qa15, Sa15, Na15, Ha15, Ga15⟩ := id V1
  have hin15 : ¬ ((0 : Int32) < 0 ∨ cl15.slots.size ≤ ((0 : Int32)).toNatClampNeg) := inb_of Sa15 ⟨by decide, by decide⟩
  have hat15 : cl15.slots[((0 : Int32)).toNatClampNeg]? = some (.ref m0) := Has.at Ha15 hin15 rfl
  refine own_of (U' := (T14.setTop (mkF m 19 #[.val (.ref a1), .val (.int (0 : Int32))] [(.ref m0)]))) (X14.aaload hx (j := (0 : Int32)) (v := (.ref m0)) (by rw [e14]; exact Ar15.1) (State.isArrayOf_alike hZ.alike Ar15.2.1) rfl Ar15.2.2 hin15 hat15 (g := (mkF m 18 #[.val (.ref a1), .val (.int (0 : Int32))] [(.int (0 : Int32)), (.ref a2)])) rfl rfl (hb hby d5_18)) ?_
  exact own_retA X14 hx hlk Bd.returns rfl rfl (hb hby d5_19) (by decide) (by decide) (⟨rfl, N0, e14⟩)
theorem ef_m1 (m : MethodId) (x0 : Addr) : entryFrame m #[(.ref x0), (.int (1 : Int32))] 2 = mkF m 0 #[.val (.ref x0), .val (.int (1 : Int32))] [] := by first | (simp [entryFrame, mkF, argsToLocals, Value.category]; done) | rfl
def Qm1 (m0 m1 m2 : Addr) (h0 : Heap) (n0 : Nat) (v : Option Value) (h : Heap) (L : List Loc) : Prop := v = some (.ref m1) ∧ Fr n0 L ∧ h = h0
set_option maxRecDepth 65536 in
set_option maxHeartbeats 40000000 in
theorem rmm1 (l : Launch) (Z : State) (a0 : Array Value) (hw : ∀ d ∈ tables_1, d.before a0 Z = true) (ws : List Jvm.Cond) (a1 a2 : Addr) (kA : ClassId) (m0 m1 m2 : Addr) (h0 : Heap) (n0 : Nat) (Z0 : n0 ≤ h0.size) (F1 : Fld Z h0 a1 "com/example/opt2/opt2/plan/Plan" "machines" "[[I" (.ref a2)) (V1 : Arv Z h0 a2 kA (.array .int) (3 : Int32) [.ref m0, .ref m1, .ref m2] .null) :
    MetFree l mN_3 (head1 (Jvm.Cond.code mN_3 prog_32_method_6_code 2 (some (.array .int)) :: ws) ({ frames := 0, cells := 0, slots := 0, locals := 0 } : Room)) (fun a U => a = #[(.ref a1), (.int (1 : Int32))] ∧ Z.Warmed39 U.vm ∧ U.heap = h0) (fun _ _ _ _ _ => True) (fun _ U o U' => ∃ v L, o = .returned v ∧ (Qm1 m0 m1 m2 h0 n0) v U'.heap L ∧ FrameEnd U o U' L ({ frames := 0, cells := 0, slots := 0, locals := 0 } : Room).cells ({ frames := 0, cells := 0, slots := 0, locals := 0 } : Room).slots) := by
  refine MetFree.of_bodySF (plainFor_of_name pn_0) hisR ?_
  intro p e s m args below meth c s₁ Bd hml0 hP hK
  obtain ⟨rfl, hZ, hh⟩ := hP
  have hx := Bd.exec
  have hby := Bd.bytes
  have hml : c.maxLocals = 2 := hml0
  have hown : s.vm.findClass "com/example/opt2/opt2/plan/Plan" = some m.cls := findClass_of_methodNamed Bd.named
  have hnm := (name_of_methodNamed Bd.named Bd.method).1
  have hlk := Bd.notSynchronized
  have X0 : Stand p l e ({ frames := 0, cells := 0, slots := 0, locals := 0 } : Room) s m #[(.ref a1), (.int (1 : Int32))] below meth c s₁ [] 0 0 := Stand.of_body Bd
  have e0 : s₁.heap = h0 := by rw [← hh, Bd.state]; rfl
  have N0 := Fr.nil n0
  show own_Ends p e below s FrameEnd (Qm1 m0 m1 m2 h0 n0) 0 0 (s₁.setTop (entryFrame m #[(.ref a1), (.int (1 : Int32))] 2))
  refine own_of (U' := (s₁.setTop (mkF m 0 #[.val (.ref a1), .val (.int (1 : Int32))] []))) (fun _ k => castTop (ef_m1 m a1) k) ?_
  refine own_aloadN X0 hx hby d5_0 rfl rfl ?_
  obtain ⟨T16, X16, e16, st16⟩ := getF X0 hx hZ hown (host := "") (Or.inl (own_w hw 19 rfl)) Via.refl e0 F1 (g := (mkF m 1 #[.val (.ref a1), .val (.int (1 : Int32))] [(.ref a1)])) rfl rfl (hb hby d5_1)
  refine own_of (U' := (T16.setTop (mkF m 4 #[.val (.ref a1), .val (.int (1 : Int32))] [(.ref a2)]))) (st16) ?_
  refine own_ifnonnullYes X16 hx hby 4 13 d5_4 (by decide) (by decide) ?_
  refine own_aloadN X16 hx hby d5_13 rfl rfl ?_
  obtain ⟨T17, X17, e17, st17⟩ := getF X16 hx hZ hown (host := "") (Or.inl (own_w hw 19 rfl)) Via.refl e16 F1 (g := (mkF m 14 #[.val (.ref a1), .val (.int (1 : Int32))] [(.ref a1)])) rfl rfl (hb hby d5_14)
  refine own_of (U' := (T17.setTop (mkF m 17 #[.val (.ref a1), .val (.int (1 : Int32))] [(.ref a2)]))) (st17) ?_
  refine own_iloadN X17 hx hby d5_17 rfl ?_
  obtain ⟨cl18, Ar18, qa18, Sa18, Na18, Ha18, Ga18⟩ := id V1
  have hin18 : ¬ ((1 : Int32) < 0 ∨ cl18.slots.size ≤ ((1 : Int32)).toNatClampNeg) := inb_of Sa18 ⟨by decide, by decide⟩
  have hat18 : cl18.slots[((1 : Int32)).toNatClampNeg]? = some (.ref m1) := Has.at Ha18 hin18 rfl
  refine own_of (U' := (T17.setTop (mkF m 19 #[.val (.ref a1), .val (.int (1 : Int32))] [(.ref m1)]))) (X17.aaload hx (j := (1 : Int32)) (v := (.ref m1)) (by rw [e17]; exact Ar18.1) (State.isArrayOf_alike hZ.alike Ar18.2.1) rfl Ar18.2.2 hin18 hat18 (g := (mkF m 18 #[.val (.ref a1), .val (.int (1 : Int32))] [(.int (1 : Int32)), (.ref a2)])) rfl rfl (hb hby d5_18)) ?_
  exact own_retA X17 hx hlk Bd.returns rfl rfl (hb hby d5_19) (by decide) (by decide) (⟨rfl, N0, e17⟩)
theorem ef_m2 (m : MethodId) (x0 : Addr) : entryFrame m #[(.ref x0), (.int (2 : Int32))] 2 = mkF m 0 #[.val (.ref x0), .val (.int (2 : Int32))] [] := by first | (simp [entryFrame, mkF, argsToLocals, Value.category]; done) | rfl
def Qm2 (m0 m1 m2 : Addr) (h0 : Heap) (n0 : Nat) (v : Option Value) (h : Heap) (L : List Loc) : Prop := v = some (.ref m2) ∧ Fr n0 L ∧ h = h0
set_option maxRecDepth 65536 in
set_option maxHeartbeats 40000000 in
theorem rmm2 (l : Launch) (Z : State) (a0 : Array Value) (hw : ∀ d ∈ tables_1, d.before a0 Z = true) (ws : List Jvm.Cond) (a1 a2 : Addr) (kA : ClassId) (m0 m1 m2 : Addr) (h0 : Heap) (n0 : Nat) (Z0 : n0 ≤ h0.size) (F1 : Fld Z h0 a1 "com/example/opt2/opt2/plan/Plan" "machines" "[[I" (.ref a2)) (V1 : Arv Z h0 a2 kA (.array .int) (3 : Int32) [.ref m0, .ref m1, .ref m2] .null) :
    MetFree l mN_3 (head1 (Jvm.Cond.code mN_3 prog_32_method_6_code 2 (some (.array .int)) :: ws) ({ frames := 0, cells := 0, slots := 0, locals := 0 } : Room)) (fun a U => a = #[(.ref a1), (.int (2 : Int32))] ∧ Z.Warmed39 U.vm ∧ U.heap = h0) (fun _ _ _ _ _ => True) (fun _ U o U' => ∃ v L, o = .returned v ∧ (Qm2 m0 m1 m2 h0 n0) v U'.heap L ∧ FrameEnd U o U' L ({ frames := 0, cells := 0, slots := 0, locals := 0 } : Room).cells ({ frames := 0, cells := 0, slots := 0, locals := 0 } : Room).slots) := by
  refine MetFree.of_bodySF (plainFor_of_name pn_0) hisR ?_
  intro p e s m args below meth c s₁ Bd hml0 hP hK
  obtain ⟨rfl, hZ, hh⟩ := hP
  have hx := Bd.exec
  have hby := Bd.bytes
  have hml : c.maxLocals = 2 := hml0
  have hown : s.vm.findClass "com/example/opt2/opt2/plan/Plan" = some m.cls := findClass_of_methodNamed Bd.named
  have hnm := (name_of_methodNamed Bd.named Bd.method).1
  have hlk := Bd.notSynchronized
  have X0 : Stand p l e ({ frames := 0, cells := 0, slots := 0, locals := 0 } : Room) s m #[(.ref a1), (.int (2 : Int32))] below meth c s₁ [] 0 0 := Stand.of_body Bd
  have e0 : s₁.heap = h0 := by rw [← hh, Bd.state]; rfl
  have N0 := Fr.nil n0
  show own_Ends p e below s FrameEnd (Qm2 m0 m1 m2 h0 n0) 0 0 (s₁.setTop (entryFrame m #[(.ref a1), (.int (2 : Int32))] 2))
  refine own_of (U' := (s₁.setTop (mkF m 0 #[.val (.ref a1), .val (.int (2 : Int32))] []))) (fun _ k => castTop (ef_m2 m a1) k) ?_
  refine own_aloadN X0 hx hby d5_0 rfl rfl ?_
  obtain ⟨T19, X19, e19, st19⟩ := getF X0 hx hZ hown (host := "") (Or.inl (own_w hw 19 rfl)) Via.refl e0 F1 (g := (mkF m 1 #[.val (.ref a1), .val (.int (2 : Int32))] [(.ref a1)])) rfl rfl (hb hby d5_1)
  refine own_of (U' := (T19.setTop (mkF m 4 #[.val (.ref a1), .val (.int (2 : Int32))] [(.ref a2)]))) (st19) ?_
  refine own_ifnonnullYes X19 hx hby 4 13 d5_4 (by decide) (by decide) ?_
  refine own_aloadN X19 hx hby d5_13 rfl rfl ?_
  obtain ⟨T20, X20, e20, st20⟩ := getF X19 hx hZ hown (host := "") (Or.inl (own_w hw 19 rfl)) Via.refl e19 F1 (g := (mkF m 14 #[.val (.ref a1), .val (.int (2 : Int32))] [(.ref a1)])) rfl rfl (hb hby d5_14)
  refine own_of (U' := (T20.setTop (mkF m 17 #[.val (.ref a1), .val (.int (2 : Int32))] [(.ref a2)]))) (st20) ?_
  refine own_iloadN X20 hx hby d5_17 rfl ?_
  obtain ⟨cl21, Ar21, qa21, Sa21, Na21, Ha21, Ga21⟩ := id V1
  have hin21 : ¬ ((2 : Int32) < 0 ∨ cl21.slots.size ≤ ((2 : Int32)).toNatClampNeg) := inb_of Sa21 ⟨by decide, by decide⟩
  have hat21 : cl21.slots[((2 : Int32)).toNatClampNeg]? = some (.ref m2) := Has.at Ha21 hin21 rfl
  refine own_of (U' := (T20.setTop (mkF m 19 #[.val (.ref a1), .val (.int (2 : Int32))] [(.ref m2)]))) (X20.aaload hx (j := (2 : Int32)) (v := (.ref m2)) (by rw [e20]; exact Ar21.1) (State.isArrayOf_alike hZ.alike Ar21.2.1) rfl Ar21.2.2 hin21 hat21 (g := (mkF m 18 #[.val (.ref a1), .val (.int (2 : Int32))] [(.int (2 : Int32)), (.ref a2)])) rfl rfl (hb hby d5_18)) ?_
  exact own_retA X20 hx hlk Bd.returns rfl rfl (hb hby d5_19) (by decide) (by decide) (⟨rfl, N0, e20⟩)
theorem pd_1 : parseMethodDescriptor "([I)V" = some ⟨[(.array .int)], none⟩ := by decide +kernel
theorem pd_2 : parseMethodDescriptor "([I[[I)V" = some ⟨[(.array .int), (.array (.array .int))], none⟩ := by decide +kernel
theorem pd_3 : parseMethodDescriptor "(I)[I" = some ⟨[.int], some (.array .int)⟩ := by decide +kernel
theorem pn_1 : plainName "com/example/opt2/opt2/plan/PlanMachinesPinLaw" = true := by first | (simp [plainName, overriddenIn]; done) | decide +kernel
theorem ef_0 (m : MethodId) (x0 : Int32) (x1 : Int32) (x2 : Int32) (x3 : Int32) : entryFrame m #[(.int x0), (.int x1), (.int x2), (.int x3)] maxLocals = mkF m 0 #[.val (.int x0), .val (.int x1), .val (.int x2), .val (.int x3), .unset, .unset, .unset, .unset, .unset, .unset, .unset, .unset, .unset, .unset] [] := by first | (simp [entryFrame, mkF, argsToLocals, Value.category, maxLocals]; done) | rfl
def Q0 (n0 : Nat) (v : Option Value) (h : Heap) (L : List Loc) : Prop := v = some (.int 1) ∧ Fr n0 L
set_option maxRecDepth 65536 in
set_option maxHeartbeats 40000000 in
theorem rm0 (l : Launch) (Z : State) (a0 : Array Value) (hw : ∀ d ∈ tables_1, d.before a0 Z = true) (ws : List Jvm.Cond) (p1 p2 p3 p4 : Int32) (kN : Addr) (kk : ClassId) (h0 : Heap) (n0 : Nat) (Z0 : n0 ≤ h0.size) (SN : Sta Z h0 "com/example/opt2/opt2/plan/Plan" "NO_MACHINES" "[I" (.ref kN)) (VN : Arv Z h0 kN kk .int (0 : Int32) [] (.int (0 : Int32))) :
    MetFree l x (head1 (Jvm.Cond.code x code maxLocals ret :: ws) room_1) (fun a U => a = #[(.int p1), (.int p2), (.int p3), (.int p4)] ∧ Z.Warmed39 U.vm ∧ U.heap = h0) (fun _ _ _ _ _ => True) (fun _ U o U' => ∃ v L, o = .returned v ∧ (Q0 n0) v U'.heap L ∧ FrameEnd U o U' L 24 128) := by
  refine MetFree.of_bodySF (plainFor_of_name pn_1) hisR ?_
  intro p e s m args below meth c s₁ Bd hml0 hP hK
  obtain ⟨rfl, hZ, hh⟩ := hP
  have hx := Bd.exec
  have hby := Bd.bytes
  have hml : c.maxLocals = 14 := hml0
  have hown : s.vm.findClass "com/example/opt2/opt2/plan/PlanMachinesPinLaw" = some m.cls := findClass_of_methodNamed Bd.named
  have hnm := (name_of_methodNamed Bd.named Bd.method).1
  have hlk := Bd.notSynchronized
  have X0 : Stand p l e room_1 s m #[(.int p1), (.int p2), (.int p3), (.int p4)] below meth c s₁ [] 0 0 := Stand.of_body Bd
  have e0 : s₁.heap = h0 := by rw [← hh, Bd.state]; rfl
  have N0 := Fr.nil n0
  show own_Ends p e below s FrameEnd (Q0 n0) 24 128 (s₁.setTop (entryFrame m #[(.int p1), (.int p2), (.int p3), (.int p4)] maxLocals))
  refine own_of (U' := (s₁.setTop (mkF m 0 #[.val (.int p1), .val (.int p2), .val (.int p3), .val (.int p4), .unset, .unset, .unset, .unset, .unset, .unset, .unset, .unset, .unset, .unset] []))) (fun _ k => castTop (ef_0 m p1 p2 p3 p4) k) ?_
  refine own_iconst X0 hx hby 3 at_0 rfl ?_
  obtain ⟨T22, h22, k22, X22, e22, E22, A22, B22, st22⟩ := newPE X0 hx hZ (own_w hw 0 rfl) e0 (g := (mkF m 1 #[.val (.int p1), .val (.int p2), .val (.int p3), .val (.int p4), .unset, .unset, .unset, .unset, .unset, .unset, .unset, .unset, .unset, .unset] [(.int (3 : Int32))])) rfl (hb hby at_1) rfl (by decide) (cap := 3) (by decide) (by decide) (by decide) (by decide) (ad := "[I") (by decide)
  obtain ⟨b22, gz22⟩ : ∃ z, z = h0.size := ⟨_, rfl⟩
  rw [← gz22] at A22 B22 st22
  have g_b22 : n0 ≤ b22 := Nat.le_trans Z0 (Nat.le_of_eq gz22.symm)
  have ne_kN_b22 : kN ≠ b22 := Nat.ne_of_lt (Nat.lt_of_lt_of_le VN.lt (Nat.le_of_eq gz22.symm))
  replace Z0 := Nat.le_trans Z0 E22.1
  replace SN := SN.ext E22
  replace VN := VN.ext E22
  have V22 : Arv Z h22 b22 k22 .int (3 : Int32) [(.int (0 : Int32)), (.int (0 : Int32)), (.int (0 : Int32))] (.int (0 : Int32)) := (Arv.new A22 (by decide)).pad (pad_rep [] (.int (0 : Int32)) 3)
  refine own_of (U' := (T22.setTop (mkF m 3 #[.val (.int p1), .val (.int p2), .val (.int p3), .val (.int p4), .unset, .unset, .unset, .unset, .unset, .unset, .unset, .unset, .unset, .unset] [(.ref b22)]))) (st22) ?_
  refine own_dup X22 hx hby at_3 rfl ?_
  refine own_iconst X22 hx hby 0 at_4 rfl ?_
  refine own_iconst X22 hx hby 0 at_5 rfl ?_
  obtain ⟨cl23, Ar23, qa23, Sa23, Na23, Ha23, Ga23⟩ := V22
  have hin23 : ¬ ((0 : Int32) < 0 ∨ cl23.slots.size ≤ ((0 : Int32)).toNatClampNeg) := inb_of Sa23 ⟨by decide, by decide⟩
  obtain ⟨T23, h23, X23, e23, W23, st23⟩ := stI X22 hx hZ e22 Ar23 (j := (0 : Int32)) hin23 (g := (mkF m 6 #[.val (.int p1), .val (.int p2), .val (.int p3), .val (.int p4), .unset, .unset, .unset, .unset, .unset, .unset, .unset, .unset, .unset, .unset] [(.int (0 : Int32)), (.int (0 : Int32)), (.ref b22), (.ref b22)])) rfl rfl (hb hby at_6)
  replace V22 : Arv Z h23 b22 k22 .int (3 : Int32) [(.int (0 : Int32)), (.int (0 : Int32)), (.int (0 : Int32))] (.int (0 : Int32)) := Arv.set Ar23 qa23 Sa23 Na23 Ha23 Ga23 rfl W23 0 rfl (Nat.le_of_ble_eq_true rfl)
  replace Z0 := Nat.le_trans Z0 (Keep.of_wr W23).1
  replace SN := SN.wr W23
  replace VN := VN.other W23 ne_kN_b22
  replace B22 := B22.wr W23
  have N23 := Fr.snoc X23 N0 g_b22
  refine own_of (U' := (T23.setTop (mkF m 7 #[.val (.int p1), .val (.int p2), .val (.int p3), .val (.int p4), .unset, .unset, .unset, .unset, .unset, .unset, .unset, .unset, .unset, .unset] [(.ref b22)]))) (st23) ?_
  refine own_dup X23 hx hby at_7 rfl ?_
  refine own_iconst X23 hx hby 1 at_8 rfl ?_
  refine own_iconst X23 hx hby 1 at_9 rfl ?_
  obtain ⟨cl24, Ar24, qa24, Sa24, Na24, Ha24, Ga24⟩ := V22
  have hin24 : ¬ ((1 : Int32) < 0 ∨ cl24.slots.size ≤ ((1 : Int32)).toNatClampNeg) := inb_of Sa24 ⟨by decide, by decide⟩
  obtain ⟨T24, h24, X24, e24, W24, st24⟩ := stI X23 hx hZ e23 Ar24 (j := (1 : Int32)) hin24 (g := (mkF m 10 #[.val (.int p1), .val (.int p2), .val (.int p3), .val (.int p4), .unset, .unset, .unset, .unset, .unset, .unset, .unset, .unset, .unset, .unset] [(.int (1 : Int32)), (.int (1 : Int32)), (.ref b22), (.ref b22)])) rfl rfl (hb hby at_10)
  replace V22 : Arv Z h24 b22 k22 .int (3 : Int32) [(.int (0 : Int32)), (.int (1 : Int32)), (.int (0 : Int32))] (.int (0 : Int32)) := Arv.set Ar24 qa24 Sa24 Na24 Ha24 Ga24 rfl W24 1 rfl (Nat.le_of_ble_eq_true rfl)
  replace Z0 := Nat.le_trans Z0 (Keep.of_wr W24).1
  replace SN := SN.wr W24
  replace VN := VN.other W24 ne_kN_b22
  replace B22 := B22.wr W24
  have N24 := Fr.snoc X24 N23 g_b22
  refine own_of (U' := (T24.setTop (mkF m 11 #[.val (.int p1), .val (.int p2), .val (.int p3), .val (.int p4), .unset, .unset, .unset, .unset, .unset, .unset, .unset, .unset, .unset, .unset] [(.ref b22)]))) (st24) ?_
  refine own_dup X24 hx hby at_11 rfl ?_
  refine own_iconst X24 hx hby 2 at_12 rfl ?_
  refine own_iconst X24 hx hby 2 at_13 rfl ?_
  obtain ⟨cl25, Ar25, qa25, Sa25, Na25, Ha25, Ga25⟩ := V22
  have hin25 : ¬ ((2 : Int32) < 0 ∨ cl25.slots.size ≤ ((2 : Int32)).toNatClampNeg) := inb_of Sa25 ⟨by decide, by decide⟩
  obtain ⟨T25, h25, X25, e25, W25, st25⟩ := stI X24 hx hZ e24 Ar25 (j := (2 : Int32)) hin25 (g := (mkF m 14 #[.val (.int p1), .val (.int p2), .val (.int p3), .val (.int p4), .unset, .unset, .unset, .unset, .unset, .unset, .unset, .unset, .unset, .unset] [(.int (2 : Int32)), (.int (2 : Int32)), (.ref b22), (.ref b22)])) rfl rfl (hb hby at_14)
  replace V22 : Arv Z h25 b22 k22 .int (3 : Int32) [(.int (0 : Int32)), (.int (1 : Int32)), (.int (2 : Int32))] (.int (0 : Int32)) := Arv.set Ar25 qa25 Sa25 Na25 Ha25 Ga25 rfl W25 2 rfl (Nat.le_of_ble_eq_true rfl)
  replace Z0 := Nat.le_trans Z0 (Keep.of_wr W25).1
  replace SN := SN.wr W25
  replace VN := VN.other W25 ne_kN_b22
  replace B22 := B22.wr W25
  have N25 := Fr.snoc X25 N24 g_b22
  refine own_of (U' := (T25.setTop (mkF m 15 #[.val (.int p1), .val (.int p2), .val (.int p3), .val (.int p4), .unset, .unset, .unset, .unset, .unset, .unset, .unset, .unset, .unset, .unset] [(.ref b22)]))) (st25) ?_
  refine own_astore X25 hx hby at_15 rfl (l' := #[.val (.int p1), .val (.int p2), .val (.int p3), .val (.int p4), .val (.ref b22), .unset, .unset, .unset, .unset, .unset, .unset, .unset, .unset, .unset]) rfl ?_
  refine own_iconst X25 hx hby 1 at_17 rfl ?_
  obtain ⟨T26, h26, k26, X26, e26, E26, A26, B26, st26⟩ := newPE X25 hx hZ (own_w hw 0 rfl) e25 (g := (mkF m 18 #[.val (.int p1), .val (.int p2), .val (.int p3), .val (.int p4), .val (.ref b22), .unset, .unset, .unset, .unset, .unset, .unset, .unset, .unset, .unset] [(.int (1 : Int32))])) rfl (hb hby at_18) rfl (by decide) (cap := 1) (by decide) (by decide) (by decide) (by decide) (ad := "[I") (by decide)
  obtain ⟨b26, gz26⟩ : ∃ z, z = h25.size := ⟨_, rfl⟩
  rw [← gz26] at A26 B26 st26
  have g_b26 : n0 ≤ b26 := Nat.le_trans Z0 (Nat.le_of_eq gz26.symm)
  have ne_kN_b26 : kN ≠ b26 := Nat.ne_of_lt (Nat.lt_of_lt_of_le VN.lt (Nat.le_of_eq gz26.symm))
  have ne_b22_b26 : b22 ≠ b26 := Nat.ne_of_lt (Nat.lt_of_lt_of_le B22.lt (Nat.le_of_eq gz26.symm))
  replace Z0 := Nat.le_trans Z0 E26.1
  replace SN := SN.ext E26
  replace VN := VN.ext E26
  replace B22 := B22.ext E26
  replace V22 := V22.ext E26
  have V26 : Arv Z h26 b26 k26 .int (1 : Int32) [(.int (0 : Int32))] (.int (0 : Int32)) := (Arv.new A26 (by decide)).pad (pad_rep [] (.int (0 : Int32)) 1)
  refine own_of (U' := (T26.setTop (mkF m 20 #[.val (.int p1), .val (.int p2), .val (.int p3), .val (.int p4), .val (.ref b22), .unset, .unset, .unset, .unset, .unset, .unset, .unset, .unset, .unset] [(.ref b26)]))) (st26) ?_
  refine own_dup X26 hx hby at_20 rfl ?_
  refine own_iconst X26 hx hby 0 at_21 rfl ?_
  refine own_iloadN X26 hx hby at_22 rfl ?_
  obtain ⟨cl27, Ar27, qa27, Sa27, Na27, Ha27, Ga27⟩ := V26
  have hin27 : ¬ ((0 : Int32) < 0 ∨ cl27.slots.size ≤ ((0 : Int32)).toNatClampNeg) := inb_of Sa27 ⟨by decide, by decide⟩
  obtain ⟨T27, h27, X27, e27, W27, st27⟩ := stI X26 hx hZ e26 Ar27 (j := (0 : Int32)) hin27 (g := (mkF m 23 #[.val (.int p1), .val (.int p2), .val (.int p3), .val (.int p4), .val (.ref b22), .unset, .unset, .unset, .unset, .unset, .unset, .unset, .unset, .unset] [(.int p1), (.int (0 : Int32)), (.ref b26), (.ref b26)])) rfl rfl (hb hby at_23)
  replace V26 : Arv Z h27 b26 k26 .int (1 : Int32) [(.int p1)] (.int (0 : Int32)) := Arv.set Ar27 qa27 Sa27 Na27 Ha27 Ga27 rfl W27 0 rfl (Nat.le_of_ble_eq_true rfl)
  replace Z0 := Nat.le_trans Z0 (Keep.of_wr W27).1
  replace SN := SN.wr W27
  replace VN := VN.other W27 ne_kN_b26
  replace B22 := B22.wr W27
  replace V22 := V22.other W27 ne_b22_b26
  replace B26 := B26.wr W27
  have N27 := Fr.snoc X27 N25 g_b26
  refine own_of (U' := (T27.setTop (mkF m 24 #[.val (.int p1), .val (.int p2), .val (.int p3), .val (.int p4), .val (.ref b22), .unset, .unset, .unset, .unset, .unset, .unset, .unset, .unset, .unset] [(.ref b26)]))) (st27) ?_
  refine own_astore X27 hx hby at_24 rfl (l' := #[.val (.int p1), .val (.int p2), .val (.int p3), .val (.int p4), .val (.ref b22), .val (.ref b26), .unset, .unset, .unset, .unset, .unset, .unset, .unset, .unset]) rfl ?_
  refine own_iconst X27 hx hby 2 at_26 rfl ?_
  obtain ⟨T28, h28, k28, X28, e28, E28, A28, B28, st28⟩ := newPE X27 hx hZ (own_w hw 0 rfl) e27 (g := (mkF m 27 #[.val (.int p1), .val (.int p2), .val (.int p3), .val (.int p4), .val (.ref b22), .val (.ref b26), .unset, .unset, .unset, .unset, .unset, .unset, .unset, .unset] [(.int (2 : Int32))])) rfl (hb hby at_27) rfl (by decide) (cap := 2) (by decide) (by decide) (by decide) (by decide) (ad := "[I") (by decide)
  obtain ⟨b28, gz28⟩ : ∃ z, z = h27.size := ⟨_, rfl⟩
  rw [← gz28] at A28 B28 st28
  have g_b28 : n0 ≤ b28 := Nat.le_trans Z0 (Nat.le_of_eq gz28.symm)
  have ne_kN_b28 : kN ≠ b28 := Nat.ne_of_lt (Nat.lt_of_lt_of_le VN.lt (Nat.le_of_eq gz28.symm))
  have ne_b22_b28 : b22 ≠ b28 := Nat.ne_of_lt (Nat.lt_of_lt_of_le B22.lt (Nat.le_of_eq gz28.symm))
  have ne_b26_b28 : b26 ≠ b28 := Nat.ne_of_lt (Nat.lt_of_lt_of_le B26.lt (Nat.le_of_eq gz28.symm))
  replace Z0 := Nat.le_trans Z0 E28.1
  replace SN := SN.ext E28
  replace VN := VN.ext E28
  replace B22 := B22.ext E28
  replace V22 := V22.ext E28
  replace B26 := B26.ext E28
  replace V26 := V26.ext E28
  have V28 : Arv Z h28 b28 k28 .int (2 : Int32) [(.int (0 : Int32)), (.int (0 : Int32))] (.int (0 : Int32)) := (Arv.new A28 (by decide)).pad (pad_rep [] (.int (0 : Int32)) 2)
  refine own_of (U' := (T28.setTop (mkF m 29 #[.val (.int p1), .val (.int p2), .val (.int p3), .val (.int p4), .val (.ref b22), .val (.ref b26), .unset, .unset, .unset, .unset, .unset, .unset, .unset, .unset] [(.ref b28)]))) (st28) ?_
  refine own_dup X28 hx hby at_29 rfl ?_
  refine own_iconst X28 hx hby 0 at_30 rfl ?_
  refine own_iloadN X28 hx hby at_31 rfl ?_
  obtain ⟨cl29, Ar29, qa29, Sa29, Na29, Ha29, Ga29⟩ := V28
  have hin29 : ¬ ((0 : Int32) < 0 ∨ cl29.slots.size ≤ ((0 : Int32)).toNatClampNeg) := inb_of Sa29 ⟨by decide, by decide⟩
  obtain ⟨T29, h29, X29, e29, W29, st29⟩ := stI X28 hx hZ e28 Ar29 (j := (0 : Int32)) hin29 (g := (mkF m 32 #[.val (.int p1), .val (.int p2), .val (.int p3), .val (.int p4), .val (.ref b22), .val (.ref b26), .unset, .unset, .unset, .unset, .unset, .unset, .unset, .unset] [(.int p2), (.int (0 : Int32)), (.ref b28), (.ref b28)])) rfl rfl (hb hby at_32)
  replace V28 : Arv Z h29 b28 k28 .int (2 : Int32) [(.int p2), (.int (0 : Int32))] (.int (0 : Int32)) := Arv.set Ar29 qa29 Sa29 Na29 Ha29 Ga29 rfl W29 0 rfl (Nat.le_of_ble_eq_true rfl)
  replace Z0 := Nat.le_trans Z0 (Keep.of_wr W29).1
  replace SN := SN.wr W29
  replace VN := VN.other W29 ne_kN_b28
  replace B22 := B22.wr W29
  replace V22 := V22.other W29 ne_b22_b28
  replace B26 := B26.wr W29
  replace V26 := V26.other W29 ne_b26_b28
  replace B28 := B28.wr W29
  have N29 := Fr.snoc X29 N27 g_b28
  refine own_of (U' := (T29.setTop (mkF m 33 #[.val (.int p1), .val (.int p2), .val (.int p3), .val (.int p4), .val (.ref b22), .val (.ref b26), .unset, .unset, .unset, .unset, .unset, .unset, .unset, .unset] [(.ref b28)]))) (st29) ?_
  refine own_dup X29 hx hby at_33 rfl ?_
  refine own_iconst X29 hx hby 1 at_34 rfl ?_
  refine own_iloadN X29 hx hby at_35 rfl ?_
  obtain ⟨cl30, Ar30, qa30, Sa30, Na30, Ha30, Ga30⟩ := V28
  have hin30 : ¬ ((1 : Int32) < 0 ∨ cl30.slots.size ≤ ((1 : Int32)).toNatClampNeg) := inb_of Sa30 ⟨by decide, by decide⟩
  obtain ⟨T30, h30, X30, e30, W30, st30⟩ := stI X29 hx hZ e29 Ar30 (j := (1 : Int32)) hin30 (g := (mkF m 36 #[.val (.int p1), .val (.int p2), .val (.int p3), .val (.int p4), .val (.ref b22), .val (.ref b26), .unset, .unset, .unset, .unset, .unset, .unset, .unset, .unset] [(.int p3), (.int (1 : Int32)), (.ref b28), (.ref b28)])) rfl rfl (hb hby at_36)
  replace V28 : Arv Z h30 b28 k28 .int (2 : Int32) [(.int p2), (.int p3)] (.int (0 : Int32)) := Arv.set Ar30 qa30 Sa30 Na30 Ha30 Ga30 rfl W30 1 rfl (Nat.le_of_ble_eq_true rfl)
  replace Z0 := Nat.le_trans Z0 (Keep.of_wr W30).1
  replace SN := SN.wr W30
  replace VN := VN.other W30 ne_kN_b28
  replace B22 := B22.wr W30
  replace V22 := V22.other W30 ne_b22_b28
  replace B26 := B26.wr W30
  replace V26 := V26.other W30 ne_b26_b28
  replace B28 := B28.wr W30
  have N30 := Fr.snoc X30 N29 g_b28
  refine own_of (U' := (T30.setTop (mkF m 37 #[.val (.int p1), .val (.int p2), .val (.int p3), .val (.int p4), .val (.ref b22), .val (.ref b26), .unset, .unset, .unset, .unset, .unset, .unset, .unset, .unset] [(.ref b28)]))) (st30) ?_
  refine own_astore X30 hx hby at_37 rfl (l' := #[.val (.int p1), .val (.int p2), .val (.int p3), .val (.int p4), .val (.ref b22), .val (.ref b26), .val (.ref b28), .unset, .unset, .unset, .unset, .unset, .unset, .unset]) rfl ?_
  refine own_iconst X30 hx hby 0 at_39 rfl ?_
  obtain ⟨T31, h31, k31, X31, e31, E31, A31, B31, st31⟩ := newPE X30 hx hZ (own_w hw 0 rfl) e30 (g := (mkF m 40 #[.val (.int p1), .val (.int p2), .val (.int p3), .val (.int p4), .val (.ref b22), .val (.ref b26), .val (.ref b28), .unset, .unset, .unset, .unset, .unset, .unset, .unset] [(.int (0 : Int32))])) rfl (hb hby at_40) rfl (by decide) (cap := 0) (by decide) (by decide) (by decide) (by decide) (ad := "[I") (by decide)
  obtain ⟨b31, gz31⟩ : ∃ z, z = h30.size := ⟨_, rfl⟩
  rw [← gz31] at A31 B31 st31
  have g_b31 : n0 ≤ b31 := Nat.le_trans Z0 (Nat.le_of_eq gz31.symm)
  have ne_kN_b31 : kN ≠ b31 := Nat.ne_of_lt (Nat.lt_of_lt_of_le VN.lt (Nat.le_of_eq gz31.symm))
  have ne_b22_b31 : b22 ≠ b31 := Nat.ne_of_lt (Nat.lt_of_lt_of_le B22.lt (Nat.le_of_eq gz31.symm))
  have ne_b26_b31 : b26 ≠ b31 := Nat.ne_of_lt (Nat.lt_of_lt_of_le B26.lt (Nat.le_of_eq gz31.symm))
  have ne_b28_b31 : b28 ≠ b31 := Nat.ne_of_lt (Nat.lt_of_lt_of_le B28.lt (Nat.le_of_eq gz31.symm))
  replace Z0 := Nat.le_trans Z0 E31.1
  replace SN := SN.ext E31
  replace VN := VN.ext E31
  replace B22 := B22.ext E31
  replace V22 := V22.ext E31
  replace B26 := B26.ext E31
  replace V26 := V26.ext E31
  replace B28 := B28.ext E31
  replace V28 := V28.ext E31
  have V31 : Arv Z h31 b31 k31 .int (0 : Int32) [] (.int (0 : Int32)) := Arv.new A31 (by decide)
  refine own_of (U' := (T31.setTop (mkF m 42 #[.val (.int p1), .val (.int p2), .val (.int p3), .val (.int p4), .val (.ref b22), .val (.ref b26), .val (.ref b28), .unset, .unset, .unset, .unset, .unset, .unset, .unset] [(.ref b31)]))) (st31) ?_
  refine own_astore X31 hx hby at_42 rfl (l' := #[.val (.int p1), .val (.int p2), .val (.int p3), .val (.int p4), .val (.ref b22), .val (.ref b26), .val (.ref b28), .val (.ref b31), .unset, .unset, .unset, .unset, .unset, .unset]) rfl ?_
  refine own_iconst X31 hx hby 3 at_44 rfl ?_
  obtain ⟨T32, h32, k32, X32, e32, E32, A32, B32, O32, st32⟩ := newRA X31 hx hZ (ty := .int) hown (C := "[I") (by decide) (own_w hw 1 rfl) (own_w hw 2 rfl) e31 (g := (mkF m 45 #[.val (.int p1), .val (.int p2), .val (.int p3), .val (.int p4), .val (.ref b22), .val (.ref b26), .val (.ref b28), .val (.ref b31), .unset, .unset, .unset, .unset, .unset, .unset] [(.int (3 : Int32))])) rfl (hb hby at_45) rfl (by decide) (cap := 3) (by decide) (by decide) (by decide) (by decide) (ad := "[[I") (by decide)
  obtain ⟨b32, gz32⟩ : ∃ z, z = h31.size := ⟨_, rfl⟩
  rw [← gz32] at A32 B32 st32
  have g_b32 : n0 ≤ b32 := Nat.le_trans Z0 (Nat.le_of_eq gz32.symm)
  have ne_kN_b32 : kN ≠ b32 := Nat.ne_of_lt (Nat.lt_of_lt_of_le VN.lt (Nat.le_of_eq gz32.symm))
  have ne_b22_b32 : b22 ≠ b32 := Nat.ne_of_lt (Nat.lt_of_lt_of_le B22.lt (Nat.le_of_eq gz32.symm))
  have ne_b26_b32 : b26 ≠ b32 := Nat.ne_of_lt (Nat.lt_of_lt_of_le B26.lt (Nat.le_of_eq gz32.symm))
  have ne_b28_b32 : b28 ≠ b32 := Nat.ne_of_lt (Nat.lt_of_lt_of_le B28.lt (Nat.le_of_eq gz32.symm))
  have ne_b31_b32 : b31 ≠ b32 := Nat.ne_of_lt (Nat.lt_of_lt_of_le B31.lt (Nat.le_of_eq gz32.symm))
  replace Z0 := Nat.le_trans Z0 E32.1
  replace SN := SN.ext E32
  replace VN := VN.ext E32
  replace B22 := B22.ext E32
  replace V22 := V22.ext E32
  replace B26 := B26.ext E32
  replace V26 := V26.ext E32
  replace B28 := B28.ext E32
  replace V28 := V28.ext E32
  replace B31 := B31.ext E32
  replace V31 := V31.ext E32
  have V32 : Arv Z h32 b32 k32 (.array .int) (3 : Int32) [.null, .null, .null] .null := (Arv.new A32 (by decide)).pad (pad_rep [] .null 3)
  refine own_of (U' := (T32.setTop (mkF m 48 #[.val (.int p1), .val (.int p2), .val (.int p3), .val (.int p4), .val (.ref b22), .val (.ref b26), .val (.ref b28), .val (.ref b31), .unset, .unset, .unset, .unset, .unset, .unset] [(.ref b32)]))) (st32) ?_
  refine own_dup X32 hx hby at_48 rfl ?_
  refine own_iconst X32 hx hby 0 at_49 rfl ?_
  refine own_aload X32 hx hby at_50 rfl rfl ?_
  obtain ⟨cl33, Ar33, qa33, Sa33, Na33, Ha33, Ga33⟩ := V32
  have hin33 : ¬ ((0 : Int32) < 0 ∨ cl33.slots.size ≤ ((0 : Int32)).toNatClampNeg) := inb_of Sa33 ⟨by decide, by decide⟩
  obtain ⟨T33, h33, X33, e33, W33, st33⟩ := stR X32 hx hZ e32 Ar33 (j := (0 : Int32)) hin33 rfl (Sto.ofVA Ar33 qa33 O32 (Ins.self B26)) (g := (mkF m 52 #[.val (.int p1), .val (.int p2), .val (.int p3), .val (.int p4), .val (.ref b22), .val (.ref b26), .val (.ref b28), .val (.ref b31), .unset, .unset, .unset, .unset, .unset, .unset] [(.ref b26), (.int (0 : Int32)), (.ref b32), (.ref b32)])) rfl rfl (hb hby at_52)
  replace V32 : Arv Z h33 b32 k32 (.array .int) (3 : Int32) [(.ref b26), .null, .null] .null := Arv.set Ar33 qa33 Sa33 Na33 Ha33 Ga33 rfl W33 0 rfl (Nat.le_of_ble_eq_true rfl)
  replace Z0 := Nat.le_trans Z0 (Keep.of_wr W33).1
  replace SN := SN.wr W33
  replace VN := VN.other W33 ne_kN_b32
  replace B22 := B22.wr W33
  replace V22 := V22.other W33 ne_b22_b32
  replace B26 := B26.wr W33
  replace V26 := V26.other W33 ne_b26_b32
  replace B28 := B28.wr W33
  replace V28 := V28.other W33 ne_b28_b32
  replace B31 := B31.wr W33
  replace V31 := V31.other W33 ne_b31_b32
  replace B32 := B32.wr W33
  have N33 := Fr.snoc X33 N30 g_b32
  refine own_of (U' := (T33.setTop (mkF m 53 #[.val (.int p1), .val (.int p2), .val (.int p3), .val (.int p4), .val (.ref b22), .val (.ref b26), .val (.ref b28), .val (.ref b31), .unset, .unset, .unset, .unset, .unset, .unset] [(.ref b32)]))) (st33) ?_
  refine own_dup X33 hx hby at_53 rfl ?_
  refine own_iconst X33 hx hby 1 at_54 rfl ?_
  refine own_aload X33 hx hby at_55 rfl rfl ?_
  obtain ⟨cl34, Ar34, qa34, Sa34, Na34, Ha34, Ga34⟩ := V32
  have hin34 : ¬ ((1 : Int32) < 0 ∨ cl34.slots.size ≤ ((1 : Int32)).toNatClampNeg) := inb_of Sa34 ⟨by decide, by decide⟩
  obtain ⟨T34, h34, X34, e34, W34, st34⟩ := stR X33 hx hZ e33 Ar34 (j := (1 : Int32)) hin34 rfl (Sto.ofVA Ar34 qa34 O32 (Ins.self B28)) (g := (mkF m 57 #[.val (.int p1), .val (.int p2), .val (.int p3), .val (.int p4), .val (.ref b22), .val (.ref b26), .val (.ref b28), .val (.ref b31), .unset, .unset, .unset, .unset, .unset, .unset] [(.ref b28), (.int (1 : Int32)), (.ref b32), (.ref b32)])) rfl rfl (hb hby at_57)
  replace V32 : Arv Z h34 b32 k32 (.array .int) (3 : Int32) [(.ref b26), (.ref b28), .null] .null := Arv.set Ar34 qa34 Sa34 Na34 Ha34 Ga34 rfl W34 1 rfl (Nat.le_of_ble_eq_true rfl)
  replace Z0 := Nat.le_trans Z0 (Keep.of_wr W34).1
  replace SN := SN.wr W34
  replace VN := VN.other W34 ne_kN_b32
  replace B22 := B22.wr W34
  replace V22 := V22.other W34 ne_b22_b32
  replace B26 := B26.wr W34
  replace V26 := V26.other W34 ne_b26_b32
  replace B28 := B28.wr W34
  replace V28 := V28.other W34 ne_b28_b32
  replace B31 := B31.wr W34
  replace V31 := V31.other W34 ne_b31_b32
  replace B32 := B32.wr W34
  have N34 := Fr.snoc X34 N33 g_b32
  refine own_of (U' := (T34.setTop (mkF m 58 #[.val (.int p1), .val (.int p2), .val (.int p3), .val (.int p4), .val (.ref b22), .val (.ref b26), .val (.ref b28), .val (.ref b31), .unset, .unset, .unset, .unset, .unset, .unset] [(.ref b32)]))) (st34) ?_
  refine own_dup X34 hx hby at_58 rfl ?_
  refine own_iconst X34 hx hby 2 at_59 rfl ?_
  refine own_aload X34 hx hby at_60 rfl rfl ?_
  obtain ⟨cl35, Ar35, qa35, Sa35, Na35, Ha35, Ga35⟩ := V32
  have hin35 : ¬ ((2 : Int32) < 0 ∨ cl35.slots.size ≤ ((2 : Int32)).toNatClampNeg) := inb_of Sa35 ⟨by decide, by decide⟩
  obtain ⟨T35, h35, X35, e35, W35, st35⟩ := stR X34 hx hZ e34 Ar35 (j := (2 : Int32)) hin35 rfl (Sto.ofVA Ar35 qa35 O32 (Ins.self B31)) (g := (mkF m 62 #[.val (.int p1), .val (.int p2), .val (.int p3), .val (.int p4), .val (.ref b22), .val (.ref b26), .val (.ref b28), .val (.ref b31), .unset, .unset, .unset, .unset, .unset, .unset] [(.ref b31), (.int (2 : Int32)), (.ref b32), (.ref b32)])) rfl rfl (hb hby at_62)
  replace V32 : Arv Z h35 b32 k32 (.array .int) (3 : Int32) [(.ref b26), (.ref b28), (.ref b31)] .null := Arv.set Ar35 qa35 Sa35 Na35 Ha35 Ga35 rfl W35 2 rfl (Nat.le_of_ble_eq_true rfl)
  replace Z0 := Nat.le_trans Z0 (Keep.of_wr W35).1
  replace SN := SN.wr W35
  replace VN := VN.other W35 ne_kN_b32
  replace B22 := B22.wr W35
  replace V22 := V22.other W35 ne_b22_b32
  replace B26 := B26.wr W35
  replace V26 := V26.other W35 ne_b26_b32
  replace B28 := B28.wr W35
  replace V28 := V28.other W35 ne_b28_b32
  replace B31 := B31.wr W35
  replace V31 := V31.other W35 ne_b31_b32
  replace B32 := B32.wr W35
  have N35 := Fr.snoc X35 N34 g_b32
  refine own_of (U' := (T35.setTop (mkF m 63 #[.val (.int p1), .val (.int p2), .val (.int p3), .val (.int p4), .val (.ref b22), .val (.ref b26), .val (.ref b28), .val (.ref b31), .unset, .unset, .unset, .unset, .unset, .unset] [(.ref b32)]))) (st35) ?_
  refine own_astore X35 hx hby at_63 rfl (l' := #[.val (.int p1), .val (.int p2), .val (.int p3), .val (.int p4), .val (.ref b22), .val (.ref b26), .val (.ref b28), .val (.ref b31), .val (.ref b32), .unset, .unset, .unset, .unset, .unset]) rfl ?_
  obtain ⟨T36, h36, X36, e36, E36, A36, D36, -, st36⟩ := newO X35 hx hZ hown (own_w hw 4 rfl) (own_w hw 5 rfl) (own_w hw 6 rfl) e35 (g := (mkF m 65 #[.val (.int p1), .val (.int p2), .val (.int p3), .val (.int p4), .val (.ref b22), .val (.ref b26), .val (.ref b28), .val (.ref b31), .val (.ref b32), .unset, .unset, .unset, .unset, .unset] [])) rfl (hb hby at_65) (by decide) (by decide)
  obtain ⟨b36, gz36⟩ : ∃ z, z = h35.size := ⟨_, rfl⟩
  rw [← gz36] at A36 D36 st36
  have g_b36 : n0 ≤ b36 := Nat.le_trans Z0 (Nat.le_of_eq gz36.symm)
  have ne_kN_b36 : kN ≠ b36 := Nat.ne_of_lt (Nat.lt_of_lt_of_le VN.lt (Nat.le_of_eq gz36.symm))
  have ne_b22_b36 : b22 ≠ b36 := Nat.ne_of_lt (Nat.lt_of_lt_of_le B22.lt (Nat.le_of_eq gz36.symm))
  have ne_b26_b36 : b26 ≠ b36 := Nat.ne_of_lt (Nat.lt_of_lt_of_le B26.lt (Nat.le_of_eq gz36.symm))
  have ne_b28_b36 : b28 ≠ b36 := Nat.ne_of_lt (Nat.lt_of_lt_of_le B28.lt (Nat.le_of_eq gz36.symm))
  have ne_b31_b36 : b31 ≠ b36 := Nat.ne_of_lt (Nat.lt_of_lt_of_le B31.lt (Nat.le_of_eq gz36.symm))
  have ne_b32_b36 : b32 ≠ b36 := Nat.ne_of_lt (Nat.lt_of_lt_of_le B32.lt (Nat.le_of_eq gz36.symm))
  replace Z0 := Nat.le_trans Z0 E36.1
  replace SN := SN.ext E36
  replace VN := VN.ext E36
  replace B22 := B22.ext E36
  replace V22 := V22.ext E36
  replace B26 := B26.ext E36
  replace V26 := V26.ext E36
  replace B28 := B28.ext E36
  replace V28 := V28.ext E36
  replace B31 := B31.ext E36
  replace V31 := V31.ext E36
  replace B32 := B32.ext E36
  replace V32 := V32.ext E36
  have F36_sites : Fld Z h36 b36 "com/example/opt2/opt2/plan/Plan" "sites" "[I" .null := D36 (Or.inr (own_w hw 18 rfl)) (ty := (.array .int)) (by decide)
  have F36_machines : Fld Z h36 b36 "com/example/opt2/opt2/plan/Plan" "machines" "[[I" .null := D36 (Or.inr (own_w hw 20 rfl)) (ty := (.array (.array .int))) (by decide)
  have F36_estimatedSeconds : Fld Z h36 b36 "com/example/opt2/opt2/plan/Plan" "estimatedSeconds" "D" (.double (0 : UInt64)) := D36 (Or.inr (own_w hw 22 rfl)) (ty := .double) (by decide)
  refine own_of (U' := (T36.setTop (mkF m 68 #[.val (.int p1), .val (.int p2), .val (.int p3), .val (.int p4), .val (.ref b22), .val (.ref b26), .val (.ref b28), .val (.ref b31), .val (.ref b32), .unset, .unset, .unset, .unset, .unset] [(.ref b36)]))) (st36) ?_
  refine own_dup X36 hx hby at_68 rfl ?_
  refine own_aload X36 hx hby at_69 rfl rfl ?_
  obtain ⟨_, _, ⟨T37, L37, k37, n37⟩, -, X37, ⟨Lc37, hQ37, l37, y37, z37⟩, st37⟩ := X36.specialBack hx (y := mN_1) rfl hown (mvT hZ (own_w hw 7 rfl)) (mvT hZ (own_w hw 8 rfl)) (mvT hZ (own_w hw 9 rfl)) (by decide) (backOf (W := 1) (rmp1 l Z a0 hw [] b36 b22 h36 n0 Z0 A36 F36_sites F36_machines F36_estimatedSeconds g_b36) hZ (own_w hw 9 rfl) (own_w hw 6 rfl) (by decide) (by decide)) (g := (mkF m 71 #[.val (.int p1), .val (.int p2), .val (.int p3), .val (.int p4), .val (.ref b22), .val (.ref b26), .val (.ref b28), .val (.ref b31), .val (.ref b32), .unset, .unset, .unset, .unset, .unset] [(.ref b22), (.ref b36), (.ref b36)])) rfl (by rw [hml]; rfl) (Steps.refl _) (a := b36) (argsL := [(.ref b22)]) (rest := [(.ref b36)]) (lenOf pd_1 rfl) rfl (by show 2 * 0 + _ ≤ _; exact Nat.le_of_eq rfl) (hb hby at_71) (fun _ _ => ⟨rfl, e36, (by decide : 6 + 0 ≤ _), (by decide : 12 + 0 ≤ _)⟩)
  dsimp only [Pt.U, Pt.locs, Pt.cells, Pt.slots] at X37 l37 y37 z37 st37 hQ37
  subst l37 y37 z37
  obtain ⟨rfl, Nq37, Kp37, Fm37⟩ := hQ37
  have N37 := Fr.app N35 Nq37
  have nst_b36 := A36.nostat
  replace Z0 := Nat.le_trans Z0 Kp37.1
  replace SN := own_staKeep SN Kp37 (nsS nst_b36 ns0)
  replace VN := VN.keep Kp37 (ninS ne_kN_b36 nin0)
  replace B22 := B22.keep Kp37
  replace V22 := V22.keep Kp37 (ninS ne_b22_b36 nin0)
  replace B26 := B26.keep Kp37
  replace V26 := V26.keep Kp37 (ninS ne_b26_b36 nin0)
  replace B28 := B28.keep Kp37
  replace V28 := V28.keep Kp37 (ninS ne_b28_b36 nin0)
  replace B31 := B31.keep Kp37
  replace V31 := V31.keep Kp37 (ninS ne_b31_b36 nin0)
  replace B32 := B32.keep Kp37
  replace V32 := V32.keep Kp37 (ninS ne_b32_b36 nin0)
  replace A36 := A36.keep Kp37
  refine own_of (U' := (T37.setTop (mkF m 74 #[.val (.int p1), .val (.int p2), .val (.int p3), .val (.int p4), .val (.ref b22), .val (.ref b26), .val (.ref b28), .val (.ref b31), .val (.ref b32), .unset, .unset, .unset, .unset, .unset] [(.ref b36)]))) (fun _ k => st37.trans k) ?_
  refine own_astore X37 hx hby at_74 rfl (l' := #[.val (.int p1), .val (.int p2), .val (.int p3), .val (.int p4), .val (.ref b22), .val (.ref b26), .val (.ref b28), .val (.ref b31), .val (.ref b32), .val (.ref b36), .unset, .unset, .unset, .unset]) rfl ?_
  obtain ⟨T38, h38, X38, e38, E38, A38, D38, -, st38⟩ := newO X37 hx hZ hown (own_w hw 4 rfl) (own_w hw 5 rfl) (own_w hw 6 rfl) rfl (g := (mkF m 76 #[.val (.int p1), .val (.int p2), .val (.int p3), .val (.int p4), .val (.ref b22), .val (.ref b26), .val (.ref b28), .val (.ref b31), .val (.ref b32), .val (.ref b36), .unset, .unset, .unset, .unset] [])) rfl (hb hby at_76) (by decide) (by decide)
  obtain ⟨b38, gz38⟩ : ∃ z, z = T37.heap.size := ⟨_, rfl⟩
  rw [← gz38] at A38 D38 st38
  have g_b38 : n0 ≤ b38 := Nat.le_trans Z0 (Nat.le_of_eq gz38.symm)
  have ne_kN_b38 : kN ≠ b38 := Nat.ne_of_lt (Nat.lt_of_lt_of_le VN.lt (Nat.le_of_eq gz38.symm))
  have ne_b22_b38 : b22 ≠ b38 := Nat.ne_of_lt (Nat.lt_of_lt_of_le B22.lt (Nat.le_of_eq gz38.symm))
  have ne_b26_b38 : b26 ≠ b38 := Nat.ne_of_lt (Nat.lt_of_lt_of_le B26.lt (Nat.le_of_eq gz38.symm))
  have ne_b28_b38 : b28 ≠ b38 := Nat.ne_of_lt (Nat.lt_of_lt_of_le B28.lt (Nat.le_of_eq gz38.symm))
  have ne_b31_b38 : b31 ≠ b38 := Nat.ne_of_lt (Nat.lt_of_lt_of_le B31.lt (Nat.le_of_eq gz38.symm))
  have ne_b32_b38 : b32 ≠ b38 := Nat.ne_of_lt (Nat.lt_of_lt_of_le B32.lt (Nat.le_of_eq gz38.symm))
  have ne_b36_b38 : b36 ≠ b38 := Nat.ne_of_lt (Nat.lt_of_lt_of_le A36.lt (Nat.le_of_eq gz38.symm))
  replace Z0 := Nat.le_trans Z0 E38.1
  replace SN := SN.ext E38
  replace VN := VN.ext E38
  replace B22 := B22.ext E38
  replace V22 := V22.ext E38
  replace B26 := B26.ext E38
  replace V26 := V26.ext E38
  replace B28 := B28.ext E38
  replace V28 := V28.ext E38
  replace B31 := B31.ext E38
  replace V31 := V31.ext E38
  replace B32 := B32.ext E38
  replace V32 := V32.ext E38
  replace A36 := A36.ext E38
  replace Fm37 := Fm37.ext E38
  have F38_sites : Fld Z h38 b38 "com/example/opt2/opt2/plan/Plan" "sites" "[I" .null := D38 (Or.inr (own_w hw 18 rfl)) (ty := (.array .int)) (by decide)
  have F38_machines : Fld Z h38 b38 "com/example/opt2/opt2/plan/Plan" "machines" "[[I" .null := D38 (Or.inr (own_w hw 20 rfl)) (ty := (.array (.array .int))) (by decide)
  have F38_estimatedSeconds : Fld Z h38 b38 "com/example/opt2/opt2/plan/Plan" "estimatedSeconds" "D" (.double (0 : UInt64)) := D38 (Or.inr (own_w hw 22 rfl)) (ty := .double) (by decide)
  refine own_of (U' := (T38.setTop (mkF m 79 #[.val (.int p1), .val (.int p2), .val (.int p3), .val (.int p4), .val (.ref b22), .val (.ref b26), .val (.ref b28), .val (.ref b31), .val (.ref b32), .val (.ref b36), .unset, .unset, .unset, .unset] [(.ref b38)]))) (st38) ?_
  refine own_dup X38 hx hby at_79 rfl ?_
  refine own_aload X38 hx hby at_80 rfl rfl ?_
  refine own_aload X38 hx hby at_82 rfl rfl ?_
  obtain ⟨_, _, ⟨T39, L39, k39, n39⟩, -, X39, ⟨Lc39, hQ39, l39, y39, z39⟩, st39⟩ := X38.specialBack hx (y := mN_2) rfl hown (mvT hZ (own_w hw 23 rfl)) (mvT hZ (own_w hw 24 rfl)) (mvT hZ (own_w hw 25 rfl)) (by decide) (backOf (W := 1) (rmp2 l Z a0 hw [] b38 b22 b32 h38 n0 Z0 A38 F38_sites F38_machines F38_estimatedSeconds g_b38) hZ (own_w hw 25 rfl) (own_w hw 6 rfl) (by decide) (by decide)) (g := (mkF m 84 #[.val (.int p1), .val (.int p2), .val (.int p3), .val (.int p4), .val (.ref b22), .val (.ref b26), .val (.ref b28), .val (.ref b31), .val (.ref b32), .val (.ref b36), .unset, .unset, .unset, .unset] [(.ref b32), (.ref b22), (.ref b38), (.ref b38)])) rfl (by rw [hml]; rfl) (Steps.refl _) (a := b38) (argsL := [(.ref b22), (.ref b32)]) (rest := [(.ref b38)]) (lenOf pd_2 rfl) rfl (by show 2 * 0 + _ ≤ _; exact Nat.le_of_eq rfl) (hb hby at_84) (fun _ _ => ⟨rfl, e38, (by decide : 7 + 0 ≤ _), (by decide : 15 + 0 ≤ _)⟩)
  dsimp only [Pt.U, Pt.locs, Pt.cells, Pt.slots] at X39 l39 y39 z39 st39 hQ39
  subst l39 y39 z39
  obtain ⟨rfl, Nq39, Kp39, Fm39⟩ := hQ39
  have N39 := Fr.app N37 Nq39
  have nst_b38 := A38.nostat
  replace Z0 := Nat.le_trans Z0 Kp39.1
  replace SN := own_staKeep SN Kp39 (nsS nst_b38 ns0)
  replace VN := VN.keep Kp39 (ninS ne_kN_b38 nin0)
  replace B22 := B22.keep Kp39
  replace V22 := V22.keep Kp39 (ninS ne_b22_b38 nin0)
  replace B26 := B26.keep Kp39
  replace V26 := V26.keep Kp39 (ninS ne_b26_b38 nin0)
  replace B28 := B28.keep Kp39
  replace V28 := V28.keep Kp39 (ninS ne_b28_b38 nin0)
  replace B31 := B31.keep Kp39
  replace V31 := V31.keep Kp39 (ninS ne_b31_b38 nin0)
  replace B32 := B32.keep Kp39
  replace V32 := V32.keep Kp39 (ninS ne_b32_b38 nin0)
  replace A36 := A36.keep Kp39
  replace Fm37 := Fm37.keep Kp39 (ninS ne_b36_b38 nin0)
  replace A38 := A38.keep Kp39
  refine own_of (U' := (T39.setTop (mkF m 87 #[.val (.int p1), .val (.int p2), .val (.int p3), .val (.int p4), .val (.ref b22), .val (.ref b26), .val (.ref b28), .val (.ref b31), .val (.ref b32), .val (.ref b36), .unset, .unset, .unset, .unset] [(.ref b38)]))) (fun _ k => st39.trans k) ?_
  refine own_astore X39 hx hby at_87 rfl (l' := #[.val (.int p1), .val (.int p2), .val (.int p3), .val (.int p4), .val (.ref b22), .val (.ref b26), .val (.ref b28), .val (.ref b31), .val (.ref b32), .val (.ref b36), .val (.ref b38), .unset, .unset, .unset]) rfl ?_
  refine own_aload X39 hx hby at_89 rfl rfl ?_
  refine own_iloadN X39 hx hby at_91 rfl ?_
  obtain ⟨cq40, kq40, q40a, q40b, q40c⟩ := isOf hZ rfl A36
  obtain ⟨_, _, ⟨T40, L40, k40, n40⟩, -, X40, ⟨Lc40, hQ40, l40, y40, z40⟩, st40⟩ := X39.virtualBack hx (y := mN_3) (z := mN_3) hown (mvT hZ (own_w hw 26 rfl)) (mvT hZ (own_w hw 27 rfl)) (notFace_of_selects (args := #[]) (mvT hZ (own_w hw 29 rfl))) (mvT hZ (own_w hw 29 rfl)) (mvT hZ (own_w hw 28 rfl)) (by decide) (backOf (W := 0) (rmmn l Z a0 hw [] b36 p4 kN T39.heap n0 Z0 Fm37 SN) hZ (own_w hw 30 rfl) (own_w hw 6 rfl) (by decide) (by decide)) q40a q40c (g := (mkF m 92 #[.val (.int p1), .val (.int p2), .val (.int p3), .val (.int p4), .val (.ref b22), .val (.ref b26), .val (.ref b28), .val (.ref b31), .val (.ref b32), .val (.ref b36), .val (.ref b38), .unset, .unset, .unset] [(.int p4), (.ref b36)])) rfl (by rw [hml]; rfl) (Steps.refl _) (argsL := [(.int p4)]) (rest := []) (lenOf pd_3 rfl) rfl (by show 2 * 0 + _ ≤ _; exact Nat.le_of_eq rfl) (hb hby at_92) (fun _ _ => ⟨rfl, rfl, (by decide : 7 + 0 ≤ _), (by decide : 15 + 0 ≤ _)⟩)
  dsimp only [Pt.U, Pt.locs, Pt.cells, Pt.slots] at X40 l40 y40 z40 st40 hQ40
  subst l40 y40 z40
  obtain ⟨rfl, Nq40, e40⟩ := hQ40
  have N40 := Fr.app N39 Nq40
  refine own_of (U' := (T40.setTop (mkF m 95 #[.val (.int p1), .val (.int p2), .val (.int p3), .val (.int p4), .val (.ref b22), .val (.ref b26), .val (.ref b28), .val (.ref b31), .val (.ref b32), .val (.ref b36), .val (.ref b38), .unset, .unset, .unset] [(.ref kN)]))) (fun _ k => st40.trans k) ?_
  refine own_astore X40 hx hby at_95 rfl (l' := #[.val (.int p1), .val (.int p2), .val (.int p3), .val (.int p4), .val (.ref b22), .val (.ref b26), .val (.ref b28), .val (.ref b31), .val (.ref b32), .val (.ref b36), .val (.ref b38), .val (.ref kN), .unset, .unset]) rfl ?_
  refine own_aload X40 hx hby at_97 rfl rfl ?_
  refine own_ifnullNo X40 hx hby at_99 ?_
  refine own_aload X40 hx hby at_102 rfl rfl ?_
  obtain ⟨cl41, Ar41, qa41, Sa41, Na41, -, -⟩ := id VN
  have al41 := X40.arraylength hx (by rw [e40]; exact Ar41.1) (State.isArrayOf_alike hZ.alike Ar41.2.1) (g := (mkF m 104 #[.val (.int p1), .val (.int p2), .val (.int p3), .val (.int p4), .val (.ref b22), .val (.ref b26), .val (.ref b28), .val (.ref b31), .val (.ref b32), .val (.ref b36), .val (.ref b38), .val (.ref kN), .unset, .unset] [(.ref kN)])) rfl rfl (hb hby at_104)
  rw [len_of Sa41 Na41] at al41
  refine own_of (U' := (T40.setTop (mkF m 105 #[.val (.int p1), .val (.int p2), .val (.int p3), .val (.int p4), .val (.ref b22), .val (.ref b26), .val (.ref b28), .val (.ref b31), .val (.ref b32), .val (.ref b36), .val (.ref b38), .val (.ref kN), .unset, .unset] [(.int (0 : Int32))]))) (al41) ?_
  have hc105_42 : (0 : Int32) = (0 : Int32) := by decide
  refine own_ifYes X40 hx hby 105 110 at_105 ((if0 _ _).trans (teq hc105_42).1) (by decide) (by decide) ?_
  refine own_iloadN X40 hx hby at_110 rfl ?_
  refine own_of (U' := (T40.setTop (mkF m 113 #[.val (.int p1), .val (.int p2), .val (.int p3), .val (.int p4), .val (.ref b22), .val (.ref b26), .val (.ref b28), .val (.ref b31), .val (.ref b32), .val (.ref b36), .val (.ref b38), .val (.ref kN), .unset, .unset] [(.int (2147483647 : Int32)), (.int p4)]))) (X40.ldcInt hx hown (mvT hZ (own_w hw 33 rfl)) (g := (mkF m 111 #[.val (.int p1), .val (.int p2), .val (.int p3), .val (.int p4), .val (.ref b22), .val (.ref b26), .val (.ref b28), .val (.ref b31), .val (.ref b32), .val (.ref b36), .val (.ref b38), .val (.ref kN), .unset, .unset] [(.int p4)])) rfl (hb hby at_111)) ?_
  refine own_iand X40 hx hby at_113 ?_
  refine own_iconst X40 hx hby 3 at_114 rfl ?_
  refine own_of (U' := (T40.setTop (mkF m 116 #[.val (.int p1), .val (.int p2), .val (.int p3), .val (.int p4), .val (.ref b22), .val (.ref b26), .val (.ref b28), .val (.ref b31), .val (.ref b32), .val (.ref b36), .val (.ref b38), .val (.ref kN), .unset, .unset] [(.int ((p4 &&& (2147483647 : Int32)) % (3 : Int32)))]))) (fun _ k => iremM (g := (mkF m 115 #[.val (.int p1), .val (.int p2), .val (.int p3), .val (.int p4), .val (.ref b22), .val (.ref b26), .val (.ref b28), .val (.ref b31), .val (.ref b32), .val (.ref b36), .val (.ref b38), .val (.ref kN), .unset, .unset] [(.int (3 : Int32)), (.int (p4 &&& (2147483647 : Int32)))])) X40 hx rfl (hb hby at_115) rfl (by decide) k) ?_
  rcases own_mod3 p4 with hv | hv | hv
  · skip
    refine own_eq (U' := (T40.setTop (mkF m 116 #[.val (.int p1), .val (.int p2), .val (.int p3), .val (.int p4), .val (.ref b22), .val (.ref b26), .val (.ref b28), .val (.ref b31), .val (.ref b32), .val (.ref b36), .val (.ref b38), .val (.ref kN), .unset, .unset] [(.int (0 : Int32))]))) (by rw [hv]) ?_
    refine own_istore X40 hx hby at_116 (l' := #[.val (.int p1), .val (.int p2), .val (.int p3), .val (.int p4), .val (.ref b22), .val (.ref b26), .val (.ref b28), .val (.ref b31), .val (.ref b32), .val (.ref b36), .val (.ref b38), .val (.ref kN), .val (.int (0 : Int32)), .unset]) rfl ?_
    refine own_aload X40 hx hby at_118 rfl rfl ?_
    refine own_iload X40 hx hby at_120 rfl ?_
    obtain ⟨cq43, kq43, q43a, q43b, q43c⟩ := isOf hZ e40 A38
    obtain ⟨_, _, ⟨T43, L43, k43, n43⟩, -, X43, ⟨Lc43, hQ43, l43, y43, z43⟩, st43⟩ := X40.virtualBack hx (y := mN_3) (z := mN_3) hown (mvT hZ (own_w hw 26 rfl)) (mvT hZ (own_w hw 27 rfl)) (notFace_of_selects (args := #[]) (mvT hZ (own_w hw 29 rfl))) (mvT hZ (own_w hw 29 rfl)) (mvT hZ (own_w hw 28 rfl)) (by decide) (backOf (W := 0) (rmm0 l Z a0 hw [] b38 b32 k32 b26 b28 b31 T39.heap n0 Z0 Fm39 V32) hZ (own_w hw 30 rfl) (own_w hw 6 rfl) (by decide) (by decide)) q43a q43c (g := (mkF m 122 #[.val (.int p1), .val (.int p2), .val (.int p3), .val (.int p4), .val (.ref b22), .val (.ref b26), .val (.ref b28), .val (.ref b31), .val (.ref b32), .val (.ref b36), .val (.ref b38), .val (.ref kN), .val (.int (0 : Int32)), .unset] [(.int (0 : Int32)), (.ref b38)])) rfl (by rw [hml]; rfl) (Steps.refl _) (argsL := [(.int (0 : Int32))]) (rest := []) (lenOf pd_3 rfl) rfl (by show 2 * 0 + _ ≤ _; exact Nat.le_of_eq rfl) (hb hby at_122) (fun _ _ => ⟨rfl, e40, (by decide : 7 + 0 ≤ _), (by decide : 15 + 0 ≤ _)⟩)
    dsimp only [Pt.U, Pt.locs, Pt.cells, Pt.slots] at X43 l43 y43 z43 st43 hQ43
    subst l43 y43 z43
    obtain ⟨rfl, Nq43, e43⟩ := hQ43
    have N43 := Fr.app N40 Nq43
    refine own_of (U' := (T43.setTop (mkF m 125 #[.val (.int p1), .val (.int p2), .val (.int p3), .val (.int p4), .val (.ref b22), .val (.ref b26), .val (.ref b28), .val (.ref b31), .val (.ref b32), .val (.ref b36), .val (.ref b38), .val (.ref kN), .val (.int (0 : Int32)), .unset] [(.ref b26)]))) (fun _ k => st43.trans k) ?_
    refine own_astore X43 hx hby at_125 rfl (l' := #[.val (.int p1), .val (.int p2), .val (.int p3), .val (.int p4), .val (.ref b22), .val (.ref b26), .val (.ref b28), .val (.ref b31), .val (.ref b32), .val (.ref b36), .val (.ref b38), .val (.ref kN), .val (.int (0 : Int32)), .val (.ref b26)]) rfl ?_
    refine own_aload X43 hx hby at_127 rfl rfl ?_
    refine own_ifnonnullYes X43 hx hby 129 134 at_129 (by decide) (by decide) ?_
    refine own_iload X43 hx hby at_134 rfl ?_
    have hc136_44 : (0 : Int32) = (0 : Int32) := by decide
    refine own_ifNo X43 hx hby at_136 ((if0 _ _).trans (teq hc136_44).2) ?_
    refine own_aload X43 hx hby at_139 rfl rfl ?_
    obtain ⟨cl45, Ar45, qa45, Sa45, Na45, -, -⟩ := id V26
    have al45 := X43.arraylength hx (by rw [e43]; exact Ar45.1) (State.isArrayOf_alike hZ.alike Ar45.2.1) (g := (mkF m 141 #[.val (.int p1), .val (.int p2), .val (.int p3), .val (.int p4), .val (.ref b22), .val (.ref b26), .val (.ref b28), .val (.ref b31), .val (.ref b32), .val (.ref b36), .val (.ref b38), .val (.ref kN), .val (.int (0 : Int32)), .val (.ref b26)] [(.ref b26)])) rfl rfl (hb hby at_141)
    rw [len_of Sa45 Na45] at al45
    refine own_of (U' := (T43.setTop (mkF m 142 #[.val (.int p1), .val (.int p2), .val (.int p3), .val (.int p4), .val (.ref b22), .val (.ref b26), .val (.ref b28), .val (.ref b31), .val (.ref b32), .val (.ref b36), .val (.ref b38), .val (.ref kN), .val (.int (0 : Int32)), .val (.ref b26)] [(.int (1 : Int32))]))) (al45) ?_
    refine own_iconst X43 hx hby 1 at_142 rfl ?_
    have hc143_46 : (1 : Int32) = (1 : Int32) := by decide
    refine own_icmpNo X43 hx hby at_143 (teq hc143_46).2 ?_
    refine own_aload X43 hx hby at_146 rfl rfl ?_
    refine own_iconst X43 hx hby 0 at_148 rfl ?_
    obtain ⟨cl47, Ar47, qa47, Sa47, Na47, Ha47, Ga47⟩ := id V26
    have hin47 : ¬ ((0 : Int32) < 0 ∨ cl47.slots.size ≤ ((0 : Int32)).toNatClampNeg) := inb_of Sa47 ⟨by decide, by decide⟩
    have hat47 : cl47.slots[((0 : Int32)).toNatClampNeg]? = some (.int p1) := Has.at Ha47 hin47 rfl
    refine own_of (U' := (T43.setTop (mkF m 150 #[.val (.int p1), .val (.int p2), .val (.int p3), .val (.int p4), .val (.ref b22), .val (.ref b26), .val (.ref b28), .val (.ref b31), .val (.ref b32), .val (.ref b36), .val (.ref b38), .val (.ref kN), .val (.int (0 : Int32)), .val (.ref b26)] [(.int p1)]))) (X43.iaload hx (j := (0 : Int32)) (v := (.int p1)) (by rw [e43]; exact Ar47.1) (State.isArrayOf_alike hZ.alike Ar47.2.1) Ar47.2.2 hin47 hat47 (g := (mkF m 149 #[.val (.int p1), .val (.int p2), .val (.int p3), .val (.int p4), .val (.ref b22), .val (.ref b26), .val (.ref b28), .val (.ref b31), .val (.ref b32), .val (.ref b36), .val (.ref b38), .val (.ref kN), .val (.int (0 : Int32)), .val (.ref b26)] [(.int (0 : Int32)), (.ref b26)])) rfl rfl (hb hby at_149)) ?_
    refine own_iloadN X43 hx hby at_150 rfl ?_
    have hc151_48 : p1 = p1 := rfl
    refine own_icmpNo X43 hx hby at_151 (teq hc151_48).2 ?_
    refine own_iconst X43 hx hby 1 at_154 rfl ?_
    refine own_goto X43 hx hby 155 159 at_155 (by decide) (by decide) ?_
    exact own_retN X43 hx hlk (t := .boolean) Bd.returns (by simp) (hb hby at_159) (by decide) (by decide) (⟨rfl, N43⟩)
  · skip
    refine own_eq (U' := (T40.setTop (mkF m 116 #[.val (.int p1), .val (.int p2), .val (.int p3), .val (.int p4), .val (.ref b22), .val (.ref b26), .val (.ref b28), .val (.ref b31), .val (.ref b32), .val (.ref b36), .val (.ref b38), .val (.ref kN), .unset, .unset] [(.int (1 : Int32))]))) (by rw [hv]) ?_
    refine own_istore X40 hx hby at_116 (l' := #[.val (.int p1), .val (.int p2), .val (.int p3), .val (.int p4), .val (.ref b22), .val (.ref b26), .val (.ref b28), .val (.ref b31), .val (.ref b32), .val (.ref b36), .val (.ref b38), .val (.ref kN), .val (.int (1 : Int32)), .unset]) rfl ?_
    refine own_aload X40 hx hby at_118 rfl rfl ?_
    refine own_iload X40 hx hby at_120 rfl ?_
    obtain ⟨cq49, kq49, q49a, q49b, q49c⟩ := isOf hZ e40 A38
    obtain ⟨_, _, ⟨T49, L49, k49, n49⟩, -, X49, ⟨Lc49, hQ49, l49, y49, z49⟩, st49⟩ := X40.virtualBack hx (y := mN_3) (z := mN_3) hown (mvT hZ (own_w hw 26 rfl)) (mvT hZ (own_w hw 27 rfl)) (notFace_of_selects (args := #[]) (mvT hZ (own_w hw 29 rfl))) (mvT hZ (own_w hw 29 rfl)) (mvT hZ (own_w hw 28 rfl)) (by decide) (backOf (W := 0) (rmm1 l Z a0 hw [] b38 b32 k32 b26 b28 b31 T39.heap n0 Z0 Fm39 V32) hZ (own_w hw 30 rfl) (own_w hw 6 rfl) (by decide) (by decide)) q49a q49c (g := (mkF m 122 #[.val (.int p1), .val (.int p2), .val (.int p3), .val (.int p4), .val (.ref b22), .val (.ref b26), .val (.ref b28), .val (.ref b31), .val (.ref b32), .val (.ref b36), .val (.ref b38), .val (.ref kN), .val (.int (1 : Int32)), .unset] [(.int (1 : Int32)), (.ref b38)])) rfl (by rw [hml]; rfl) (Steps.refl _) (argsL := [(.int (1 : Int32))]) (rest := []) (lenOf pd_3 rfl) rfl (by show 2 * 0 + _ ≤ _; exact Nat.le_of_eq rfl) (hb hby at_122) (fun _ _ => ⟨rfl, e40, (by decide : 7 + 0 ≤ _), (by decide : 15 + 0 ≤ _)⟩)
    dsimp only [Pt.U, Pt.locs, Pt.cells, Pt.slots] at X49 l49 y49 z49 st49 hQ49
    subst l49 y49 z49
    obtain ⟨rfl, Nq49, e49⟩ := hQ49
    have N49 := Fr.app N40 Nq49
    refine own_of (U' := (T49.setTop (mkF m 125 #[.val (.int p1), .val (.int p2), .val (.int p3), .val (.int p4), .val (.ref b22), .val (.ref b26), .val (.ref b28), .val (.ref b31), .val (.ref b32), .val (.ref b36), .val (.ref b38), .val (.ref kN), .val (.int (1 : Int32)), .unset] [(.ref b28)]))) (fun _ k => st49.trans k) ?_
    refine own_astore X49 hx hby at_125 rfl (l' := #[.val (.int p1), .val (.int p2), .val (.int p3), .val (.int p4), .val (.ref b22), .val (.ref b26), .val (.ref b28), .val (.ref b31), .val (.ref b32), .val (.ref b36), .val (.ref b38), .val (.ref kN), .val (.int (1 : Int32)), .val (.ref b28)]) rfl ?_
    refine own_aload X49 hx hby at_127 rfl rfl ?_
    refine own_ifnonnullYes X49 hx hby 129 134 at_129 (by decide) (by decide) ?_
    refine own_iload X49 hx hby at_134 rfl ?_
    have hc136_50 : ¬ ((1 : Int32) = (0 : Int32)) := by decide
    refine own_ifYes X49 hx hby 136 160 at_136 ((if0 _ _).trans (feq hc136_50).2) (by decide) (by decide) ?_
    refine own_iload X49 hx hby at_160 rfl ?_
    refine own_iconst X49 hx hby 1 at_162 rfl ?_
    have hc163_51 : (1 : Int32) = (1 : Int32) := by decide
    refine own_icmpNo X49 hx hby at_163 (teq hc163_51).2 ?_
    refine own_aload X49 hx hby at_166 rfl rfl ?_
    obtain ⟨cl52, Ar52, qa52, Sa52, Na52, -, -⟩ := id V28
    have al52 := X49.arraylength hx (by rw [e49]; exact Ar52.1) (State.isArrayOf_alike hZ.alike Ar52.2.1) (g := (mkF m 168 #[.val (.int p1), .val (.int p2), .val (.int p3), .val (.int p4), .val (.ref b22), .val (.ref b26), .val (.ref b28), .val (.ref b31), .val (.ref b32), .val (.ref b36), .val (.ref b38), .val (.ref kN), .val (.int (1 : Int32)), .val (.ref b28)] [(.ref b28)])) rfl rfl (hb hby at_168)
    rw [len_of Sa52 Na52] at al52
    refine own_of (U' := (T49.setTop (mkF m 169 #[.val (.int p1), .val (.int p2), .val (.int p3), .val (.int p4), .val (.ref b22), .val (.ref b26), .val (.ref b28), .val (.ref b31), .val (.ref b32), .val (.ref b36), .val (.ref b38), .val (.ref kN), .val (.int (1 : Int32)), .val (.ref b28)] [(.int (2 : Int32))]))) (al52) ?_
    refine own_iconst X49 hx hby 2 at_169 rfl ?_
    have hc170_53 : (2 : Int32) = (2 : Int32) := by decide
    refine own_icmpNo X49 hx hby at_170 (teq hc170_53).2 ?_
    refine own_aload X49 hx hby at_173 rfl rfl ?_
    refine own_iconst X49 hx hby 0 at_175 rfl ?_
    obtain ⟨cl54, Ar54, qa54, Sa54, Na54, Ha54, Ga54⟩ := id V28
    have hin54 : ¬ ((0 : Int32) < 0 ∨ cl54.slots.size ≤ ((0 : Int32)).toNatClampNeg) := inb_of Sa54 ⟨by decide, by decide⟩
    have hat54 : cl54.slots[((0 : Int32)).toNatClampNeg]? = some (.int p2) := Has.at Ha54 hin54 rfl
    refine own_of (U' := (T49.setTop (mkF m 177 #[.val (.int p1), .val (.int p2), .val (.int p3), .val (.int p4), .val (.ref b22), .val (.ref b26), .val (.ref b28), .val (.ref b31), .val (.ref b32), .val (.ref b36), .val (.ref b38), .val (.ref kN), .val (.int (1 : Int32)), .val (.ref b28)] [(.int p2)]))) (X49.iaload hx (j := (0 : Int32)) (v := (.int p2)) (by rw [e49]; exact Ar54.1) (State.isArrayOf_alike hZ.alike Ar54.2.1) Ar54.2.2 hin54 hat54 (g := (mkF m 176 #[.val (.int p1), .val (.int p2), .val (.int p3), .val (.int p4), .val (.ref b22), .val (.ref b26), .val (.ref b28), .val (.ref b31), .val (.ref b32), .val (.ref b36), .val (.ref b38), .val (.ref kN), .val (.int (1 : Int32)), .val (.ref b28)] [(.int (0 : Int32)), (.ref b28)])) rfl rfl (hb hby at_176)) ?_
    refine own_iloadN X49 hx hby at_177 rfl ?_
    have hc178_55 : p2 = p2 := rfl
    refine own_icmpNo X49 hx hby at_178 (teq hc178_55).2 ?_
    refine own_aload X49 hx hby at_181 rfl rfl ?_
    refine own_iconst X49 hx hby 1 at_183 rfl ?_
    obtain ⟨cl56, Ar56, qa56, Sa56, Na56, Ha56, Ga56⟩ := id V28
    have hin56 : ¬ ((1 : Int32) < 0 ∨ cl56.slots.size ≤ ((1 : Int32)).toNatClampNeg) := inb_of Sa56 ⟨by decide, by decide⟩
    have hat56 : cl56.slots[((1 : Int32)).toNatClampNeg]? = some (.int p3) := Has.at Ha56 hin56 rfl
    refine own_of (U' := (T49.setTop (mkF m 185 #[.val (.int p1), .val (.int p2), .val (.int p3), .val (.int p4), .val (.ref b22), .val (.ref b26), .val (.ref b28), .val (.ref b31), .val (.ref b32), .val (.ref b36), .val (.ref b38), .val (.ref kN), .val (.int (1 : Int32)), .val (.ref b28)] [(.int p3)]))) (X49.iaload hx (j := (1 : Int32)) (v := (.int p3)) (by rw [e49]; exact Ar56.1) (State.isArrayOf_alike hZ.alike Ar56.2.1) Ar56.2.2 hin56 hat56 (g := (mkF m 184 #[.val (.int p1), .val (.int p2), .val (.int p3), .val (.int p4), .val (.ref b22), .val (.ref b26), .val (.ref b28), .val (.ref b31), .val (.ref b32), .val (.ref b36), .val (.ref b38), .val (.ref kN), .val (.int (1 : Int32)), .val (.ref b28)] [(.int (1 : Int32)), (.ref b28)])) rfl rfl (hb hby at_184)) ?_
    refine own_iloadN X49 hx hby at_185 rfl ?_
    have hc186_57 : p3 = p3 := rfl
    refine own_icmpNo X49 hx hby at_186 (teq hc186_57).2 ?_
    refine own_iconst X49 hx hby 1 at_189 rfl ?_
    refine own_goto X49 hx hby 190 194 at_190 (by decide) (by decide) ?_
    exact own_retN X49 hx hlk (t := .boolean) Bd.returns (by simp) (hb hby at_194) (by decide) (by decide) (⟨rfl, N49⟩)
  · skip
    refine own_eq (U' := (T40.setTop (mkF m 116 #[.val (.int p1), .val (.int p2), .val (.int p3), .val (.int p4), .val (.ref b22), .val (.ref b26), .val (.ref b28), .val (.ref b31), .val (.ref b32), .val (.ref b36), .val (.ref b38), .val (.ref kN), .unset, .unset] [(.int (2 : Int32))]))) (by rw [hv]) ?_
    refine own_istore X40 hx hby at_116 (l' := #[.val (.int p1), .val (.int p2), .val (.int p3), .val (.int p4), .val (.ref b22), .val (.ref b26), .val (.ref b28), .val (.ref b31), .val (.ref b32), .val (.ref b36), .val (.ref b38), .val (.ref kN), .val (.int (2 : Int32)), .unset]) rfl ?_
    refine own_aload X40 hx hby at_118 rfl rfl ?_
    refine own_iload X40 hx hby at_120 rfl ?_
    obtain ⟨cq58, kq58, q58a, q58b, q58c⟩ := isOf hZ e40 A38
    obtain ⟨_, _, ⟨T58, L58, k58, n58⟩, -, X58, ⟨Lc58, hQ58, l58, y58, z58⟩, st58⟩ := X40.virtualBack hx (y := mN_3) (z := mN_3) hown (mvT hZ (own_w hw 26 rfl)) (mvT hZ (own_w hw 27 rfl)) (notFace_of_selects (args := #[]) (mvT hZ (own_w hw 29 rfl))) (mvT hZ (own_w hw 29 rfl)) (mvT hZ (own_w hw 28 rfl)) (by decide) (backOf (W := 0) (rmm2 l Z a0 hw [] b38 b32 k32 b26 b28 b31 T39.heap n0 Z0 Fm39 V32) hZ (own_w hw 30 rfl) (own_w hw 6 rfl) (by decide) (by decide)) q58a q58c (g := (mkF m 122 #[.val (.int p1), .val (.int p2), .val (.int p3), .val (.int p4), .val (.ref b22), .val (.ref b26), .val (.ref b28), .val (.ref b31), .val (.ref b32), .val (.ref b36), .val (.ref b38), .val (.ref kN), .val (.int (2 : Int32)), .unset] [(.int (2 : Int32)), (.ref b38)])) rfl (by rw [hml]; rfl) (Steps.refl _) (argsL := [(.int (2 : Int32))]) (rest := []) (lenOf pd_3 rfl) rfl (by show 2 * 0 + _ ≤ _; exact Nat.le_of_eq rfl) (hb hby at_122) (fun _ _ => ⟨rfl, e40, (by decide : 7 + 0 ≤ _), (by decide : 15 + 0 ≤ _)⟩)
    dsimp only [Pt.U, Pt.locs, Pt.cells, Pt.slots] at X58 l58 y58 z58 st58 hQ58
    subst l58 y58 z58
    obtain ⟨rfl, Nq58, e58⟩ := hQ58
    have N58 := Fr.app N40 Nq58
    refine own_of (U' := (T58.setTop (mkF m 125 #[.val (.int p1), .val (.int p2), .val (.int p3), .val (.int p4), .val (.ref b22), .val (.ref b26), .val (.ref b28), .val (.ref b31), .val (.ref b32), .val (.ref b36), .val (.ref b38), .val (.ref kN), .val (.int (2 : Int32)), .unset] [(.ref b31)]))) (fun _ k => st58.trans k) ?_
    refine own_astore X58 hx hby at_125 rfl (l' := #[.val (.int p1), .val (.int p2), .val (.int p3), .val (.int p4), .val (.ref b22), .val (.ref b26), .val (.ref b28), .val (.ref b31), .val (.ref b32), .val (.ref b36), .val (.ref b38), .val (.ref kN), .val (.int (2 : Int32)), .val (.ref b31)]) rfl ?_
    refine own_aload X58 hx hby at_127 rfl rfl ?_
    refine own_ifnonnullYes X58 hx hby 129 134 at_129 (by decide) (by decide) ?_
    refine own_iload X58 hx hby at_134 rfl ?_
    have hc136_59 : ¬ ((2 : Int32) = (0 : Int32)) := by decide
    refine own_ifYes X58 hx hby 136 160 at_136 ((if0 _ _).trans (feq hc136_59).2) (by decide) (by decide) ?_
    refine own_iload X58 hx hby at_160 rfl ?_
    refine own_iconst X58 hx hby 1 at_162 rfl ?_
    have hc163_60 : ¬ ((2 : Int32) = (1 : Int32)) := by decide
    refine own_icmpYes X58 hx hby 163 195 at_163 (feq hc163_60).2 (by decide) (by decide) ?_
    refine own_aload X58 hx hby at_195 rfl rfl ?_
    obtain ⟨cl61, Ar61, qa61, Sa61, Na61, -, -⟩ := id V31
    have al61 := X58.arraylength hx (by rw [e58]; exact Ar61.1) (State.isArrayOf_alike hZ.alike Ar61.2.1) (g := (mkF m 197 #[.val (.int p1), .val (.int p2), .val (.int p3), .val (.int p4), .val (.ref b22), .val (.ref b26), .val (.ref b28), .val (.ref b31), .val (.ref b32), .val (.ref b36), .val (.ref b38), .val (.ref kN), .val (.int (2 : Int32)), .val (.ref b31)] [(.ref b31)])) rfl rfl (hb hby at_197)
    rw [len_of Sa61 Na61] at al61
    refine own_of (U' := (T58.setTop (mkF m 198 #[.val (.int p1), .val (.int p2), .val (.int p3), .val (.int p4), .val (.ref b22), .val (.ref b26), .val (.ref b28), .val (.ref b31), .val (.ref b32), .val (.ref b36), .val (.ref b38), .val (.ref kN), .val (.int (2 : Int32)), .val (.ref b31)] [(.int (0 : Int32))]))) (al61) ?_
    have hc198_62 : (0 : Int32) = (0 : Int32) := by decide
    refine own_ifNo X58 hx hby at_198 ((if0 _ _).trans (teq hc198_62).2) ?_
    refine own_iconst X58 hx hby 1 at_201 rfl ?_
    refine own_goto X58 hx hby 202 206 at_202 (by decide) (by decide) ?_
    exact own_retN X58 hx hlk (t := .boolean) Bd.returns (by simp) (hb hby at_206) (by decide) (by decide) (⟨rfl, N58⟩)
set_option maxRecDepth 65536 in
set_option maxHeartbeats 40000000 in
theorem comes_1 {Post : Tables → Env → Array Value → State → Outcome → State → Prop} (hpost : ∀ tb e args s v u, (limb_1_1.after args s (.returned v) u = true ∧ limb_1_2.after args s (.returned v) u = true ∧ True) → FrameEnd s (.returned v) u (Jvm.fieldLocs frame_1_writes args s ++ Jvm.arrayLocs frame_1_arrays args s ++ Jvm.staticLocs frame_1_statics s) 24 128 → Post tb e args s (.returned v) u) :
    ArmFor flags0 classFile x code maxLocals ret World_1 tables_1 room_1 Calls_1 rest_1 Pre_1 Post := by
  intro l hfl _ _ p e ha hc hk s m args below hf hA hF happ hP
  obtain ⟨hcalls, hrest, hpre⟩ := hP
  obtain ⟨-, -, -, hnamed, -, -, -, hat⟩ := (Spec.applies_iff hf).mp happ
  obtain ⟨hg, hn⟩ := and_e (Cond.before_iff.mp (show (Jvm.Cond.and given_1 narrow_1).before args s = true from hpre))
  obtain ⟨hcount, hv0⟩ := and_e hg
  obtain ⟨hi0, hv1⟩ := and_e hv0
  obtain ⟨hi1, hv2⟩ := and_e hv1
  obtain ⟨hi2, hv3⟩ := and_e hv2
  obtain ⟨w0, w1, w2, w3, rfl⟩ : ∃ w0 w1 w2 w3 : Value, args = #[w0, w1, w2, w3] := by
    have hs : args.size = 4 := by simpa [Cond.value, given_1] using hcount
    obtain ⟨L⟩ := args
    match L, hs with
    | [w0, w1, w2, w3], _ => exact ⟨w0, w1, w2, w3, rfl⟩
  have hw := fun d (hd : d ∈ tables_1) => atoms_spec (ws := Jvm.Cond.code x code maxLocals ret :: tables_1) hat d (List.mem_cons_of_mem _ hd)
  have hfit : Fit s := fun {y c} hc i hi => by
    obtain ⟨ha, rfl⟩ := Array.getElem?_eq_some_iff.mp hc
    have q := List.all_eq_true.mp ((Array.all_eq_true_iff_forall_mem.mp hF) _ (Array.getElem_mem ha)) i (List.mem_range.mpr hi)
    simpa [Array.getElem?_eq_getElem hi] using q
  obtain ⟨i0, ei0⟩ := is_v hi0
  obtain rfl : w0 = (.int i0) := Option.some.inj ei0
  obtain ⟨i1, ei1⟩ := is_v hi1
  obtain rfl : w1 = (.int i1) := Option.some.inj ei1
  obtain ⟨i2, ei2⟩ := is_v hi2
  obtain rfl : w2 = (.int i2) := Option.some.inj ei2
  obtain ⟨i3, ei3⟩ := is_v hv3
  obtain rfl : w3 = (.int i3) := Option.some.inj ei3
  obtain ⟨nn0, nn1⟩ := and_e hn
  obtain ⟨kN, ekN⟩ := arr_v nn0
  have SN : Sta s s.heap "com/example/opt2/opt2/plan/Plan" "NO_MACHINES" "[I" (.ref kN) := Sta.start ekN (Or.inr ⟨(own_w hw 6 rfl), (own_w hw 32 rfl)⟩)
  obtain ⟨clN, ArN⟩ := Arr.start ekN nn0
  have szN : clN.slots.size = 0 := own_len0 ekN ArN (own_eqk nn1)
  have VN : Arv s s.heap kN clN.cls .int (0 : Int32) [] (.int (0 : Int32)) := Arv.start hfit ArN (by omega) (by rw [szN]; rfl) (by decide) rfl trivial
  obtain ⟨n, o, h1, h2, h3, _, L, rfl, ⟨rfl, N⟩, hq⟩ := rm0 l s _ hw tables_1 i0 i1 i2 i3 kN clN.cls s.heap s.heap.size (Nat.le_refl _) SN VN p e ha hc hk s m _ below hf ((Spec.applies_iff_loose hf).mp happ).1 ⟨rfl, State.Warmed39.refl s, rfl⟩ trivial
  exact ⟨n, _, h1, h2, h3, hpost _ _ _ _ _ _ ⟨Cond.after_iff.mpr rfl, Cond.after_iff.mpr (eq_i res_at (Term.int_eval (1)) rfl), trivial⟩ ⟨hq.1, hq.2.1, (hq.2.2.sift fun y hy => Or.inr (N y hy)).mono (by decide) (by decide)⟩⟩
theorem main_1_1 : Claimed_1_1 := comes_1 fun _ _ _ _ _ _ h hF => ⟨h.1, hF⟩
theorem main_1_2 : Claimed_1_2 := comes_1 fun _ _ _ _ _ _ h hF => ⟨h.2.1, hF⟩
end Jvm.Pilot.@@N@@
namespace Jvm.Pilot.@@N@@
open Jvm Jvm.ClassFile Sem Op Lib Jvm.Free Jvm.Stand Jvm.Pilot.@@N@@.Jvm.D
/-! MADE BY PROGRAM (witnessworld.py) out of the Statement's table words and the real class files: 9 classes; the members and pool entries that the words name. The judged class is class 1, her method 1. -/
namespace start1
open Jvm.ClassFile
def u (s : String) : CpInfo := .utf8 (stringToUtf16 s)
/-- a pool by its gaps: so many unusable entries, then the entry; so many at the end -/
def gap : Nat → List CpInfo → List CpInfo
  | 0, r => r
  | n + 1, r => .unusable :: gap n r
def poolList (es : List (Nat × CpInfo)) (last : Nat) : List CpInfo := es.foldr (fun e r => gap e.1 (e.2 :: r)) (gap last [])
def pool (es : List (Nat × CpInfo)) (last : Nat) : Array CpInfo := ⟨poolList es last⟩
def fileOf (pool : Array CpInfo) (this : Nat) (attrs : Array Attribute := #[]) (ms : Array MethodInfo := #[]) (fl : Nat := 33) (sup : Nat := 0) (ifs : Array Nat := #[]) (fds : Array FieldInfo := #[]) : ClassFile where
  minorVersion := 0
  majorVersion := 65
  constantPool := pool
  accessFlags := fl
  thisClass := this
  superClass := sup
  interfaces := ifs
  fields := fds
  methods := ms
  attributes := attrs
def plain (name : String) (sup : Option ClassId) : Class where
  name := name
  kind := .ordinary
  loader := none
  accessFlags := 33
  super := sup
  interfaces := #[]
  cf := none
  fields := #[]
  methods := #[]
  instanceTypes := #[]
  staticTypes := #[]
  resolved := #[]
  callSites := []
  init := .initialized
  statics := none
  mirror := none

def pool0 : Array CpInfo := pool [(5, u "<init>"), (0, u "()V"), (1, .class_ 10), (1, u "java/lang/Object")] 113

def k0c0 : Code := { maxStack := 0, maxLocals := 1, code := object_method_1_code, exceptionTable := #[], attributes := #[] }
def k0m0 : Method := { name := "<init>", desc := "()V", sig := { parameters := [], returnType := none }, accessFlags := 1, code := some k0c0 }
/-- java/lang/Object -/
def k0 : Class := { plain "java/lang/Object" none with
  accessFlags := 33
  interfaces := #[]
  cf := some (fileOf pool0 8 #[] #[{ accessFlags := 1, nameIndex := 5, descriptorIndex := 6, attributes := #[] }] 33 0 #[] #[])
  fields := #[]
  methods := #[k0m0]
  instanceTypes := #[]
  staticTypes := #[]
  resolved := Array.replicate 124 none
  statics := none }

def pool1 : Array CpInfo := pool [(2, .class_ 4), (1, u "java/lang/Object"), (0, u "<init>"), (0, u "()V"), (0, .class_ 8), (0, u "[I"), (0, .class_ 10), (0, u "com/example/opt2/opt2/plan/Plan"), (0, .methodref 9 12), (0, .nameAndType 5 13), (0, u "([I)V"), (0, .methodref 9 15), (0, .nameAndType 5 16), (0, u "([I[[I)V"), (0, .methodref 9 18), (0, .nameAndType 19 20), (0, u "machines"), (0, u "(I)[I"), (0, .integer 2147483647), (0, .class_ 23), (0, u "com/example/opt2/opt2/plan/PlanMachinesPinLaw"), (2, u "law"), (0, u "(IIII)Z")] 5

def k1m0 : Method := { name := "<init>", desc := "()V", sig := { parameters := [], returnType := none }, accessFlags := 1, code := none }
def k1c1 : Code := { maxStack := 4, maxLocals := 14, code := code, exceptionTable := #[], attributes := #[] }
def k1m1 : Method := { name := "law", desc := "(IIII)Z", sig := { parameters := [.int, .int, .int, .int], returnType := some .boolean }, accessFlags := 9, code := some k1c1 }
/-- com/example/opt2/opt2/plan/PlanMachinesPinLaw -/
def k1 : Class := { plain "com/example/opt2/opt2/plan/PlanMachinesPinLaw" (some 0) with
  accessFlags := 49
  interfaces := #[]
  cf := some (fileOf pool1 22 #[] #[{ accessFlags := 1, nameIndex := 5, descriptorIndex := 6, attributes := #[] }, { accessFlags := 9, nameIndex := 26, descriptorIndex := 27, attributes := #[] }] 49 2 #[] #[])
  fields := #[]
  methods := #[k1m0, k1m1]
  instanceTypes := #[]
  staticTypes := #[]
  resolved := Array.replicate 33 none
  statics := none }

def pool2 : Array CpInfo := pool [(3, .double 9221120237041090560), (1, .methodref 6 7), (0, .class_ 8), (0, .nameAndType 9 10), (0, u "com/example/opt2/opt2/plan/Plan"), (0, u "<init>"), (0, u "([I[[ID)V"), (0, .methodref 12 13), (0, .class_ 14), (0, .nameAndType 9 15), (0, u "java/lang/Object"), (0, u "()V"), (0, .fieldref 6 17), (0, .nameAndType 18 19), (0, u "sites"), (0, u "[I"), (0, .fieldref 6 21), (0, .nameAndType 22 23), (0, u "machines"), (0, u "[[I"), (0, .fieldref 6 25), (0, .nameAndType 26 27), (0, u "estimatedSeconds"), (0, u "D"), (0, .fieldref 6 29), (0, .nameAndType 30 19), (0, u "NO_MACHINES"), (14, u "([I)V"), (2, u "([I[[I)V"), (3, u "(I)[I")] 5

def k2c0 : Code := { maxStack := 5, maxLocals := 2, code := prog_32_method_1_code, exceptionTable := #[], attributes := #[] }
def k2m0 : Method := { name := "<init>", desc := "([I)V", sig := { parameters := [(.array .int)], returnType := none }, accessFlags := 1, code := some k2c0 }
def k2c1 : Code := { maxStack := 5, maxLocals := 3, code := prog_32_method_2_code, exceptionTable := #[], attributes := #[] }
def k2m1 : Method := { name := "<init>", desc := "([I[[I)V", sig := { parameters := [(.array .int), (.array (.array .int))], returnType := none }, accessFlags := 1, code := some k2c1 }
def k2c2 : Code := { maxStack := 3, maxLocals := 5, code := prog_32_method_4_code, exceptionTable := #[], attributes := #[] }
def k2m2 : Method := { name := "<init>", desc := "([I[[ID)V", sig := { parameters := [(.array .int), (.array (.array .int)), .double], returnType := none }, accessFlags := 2, code := some k2c2 }
def k2c3 : Code := { maxStack := 2, maxLocals := 2, code := prog_32_method_6_code, exceptionTable := #[], attributes := #[] }
def k2m3 : Method := { name := "machines", desc := "(I)[I", sig := { parameters := [.int], returnType := some (.array .int) }, accessFlags := 1, code := some k2c3 }
/-- com/example/opt2/opt2/plan/Plan -/
def k2 : Class := { plain "com/example/opt2/opt2/plan/Plan" (some 0) with
  accessFlags := 33
  interfaces := #[]
  cf := some (fileOf pool2 6 #[] #[{ accessFlags := 1, nameIndex := 9, descriptorIndex := 45, attributes := #[] }, { accessFlags := 1, nameIndex := 9, descriptorIndex := 48, attributes := #[] }, { accessFlags := 2, nameIndex := 9, descriptorIndex := 10, attributes := #[] }, { accessFlags := 1, nameIndex := 22, descriptorIndex := 52, attributes := #[] }] 33 12 #[] #[{ accessFlags := 26, nameIndex := 30, descriptorIndex := 19, attributes := #[] }, { accessFlags := 18, nameIndex := 18, descriptorIndex := 19, attributes := #[] }, { accessFlags := 18, nameIndex := 22, descriptorIndex := 23, attributes := #[] }, { accessFlags := 18, nameIndex := 26, descriptorIndex := 27, attributes := #[] }])
  fields := #[{ name := "NO_MACHINES", type := (.array .int), accessFlags := 26, slot := 0, constantValue := 0 }, { name := "sites", type := (.array .int), accessFlags := 18, slot := 0, constantValue := 0 }, { name := "machines", type := (.array (.array .int)), accessFlags := 18, slot := 1, constantValue := 0 }, { name := "estimatedSeconds", type := .double, accessFlags := 18, slot := 2, constantValue := 0 }]
  methods := #[k2m0, k2m1, k2m2, k2m3]
  instanceTypes := #[(.array .int), (.array (.array .int)), .double]
  staticTypes := #[(.array .int)]
  resolved := Array.replicate 58 none
  statics := some 0 }

def pool3 : Array CpInfo := pool [(1, u "java/lang/Cloneable"), (0, .class_ 1), (0, u "java/lang/Object"), (0, .class_ 3)] 3

/-- java/lang/Cloneable -/
def k3 : Class := { plain "java/lang/Cloneable" (some 0) with
  accessFlags := 1537
  interfaces := #[]
  cf := some (fileOf pool3 2 #[] #[] 1537 4 #[] #[])
  fields := #[]
  methods := #[]
  instanceTypes := #[]
  staticTypes := #[]
  resolved := Array.replicate 8 none
  statics := none }

def pool4 : Array CpInfo := pool [(1, u "java/io/Serializable"), (0, .class_ 1), (0, u "java/lang/Object"), (0, .class_ 3)] 3

/-- java/io/Serializable -/
def k4 : Class := { plain "java/io/Serializable" (some 0) with
  accessFlags := 1537
  interfaces := #[]
  cf := some (fileOf pool4 2 #[] #[] 1537 4 #[] #[])
  fields := #[]
  methods := #[]
  instanceTypes := #[]
  staticTypes := #[]
  resolved := Array.replicate 8 none
  statics := none }

/-- the primitive byte -/
def k5 : Class := { plain "byte" none with kind := .primitive 'B', accessFlags := 0x411 }
/-- [B -/
def k6 : Class := { plain "[B" (some 0) with kind := .array 5 .byte, interfaces := #[3, 4], accessFlags := 1041 }

/-- the primitive int -/
def k7 : Class := { plain "int" none with kind := .primitive 'I', accessFlags := 0x411 }
/-- [I -/
def k8 : Class := { plain "[I" (some 0) with kind := .array 7 .int, interfaces := #[3, 4], accessFlags := 1041 }

/-- [[I -/
def k9 : Class := { plain "[[I" (some 0) with kind := .array 8 (.array .int), interfaces := #[3, 4], accessFlags := 1041 }
def heap : Heap := #[{ cls := 2, slots := #[.ref 1], vm := .statics 2 },
  { cls := 8, slots := #[], vm := .none }]
def classes : Array Class := #[k0, k1, k2, k3, k4, k5, k6, k7, k8, k9]
def interned : List (Array UInt16 × Addr) := []
def slotsUsed : Nat := 1
def theMethod : MethodId := ⟨1, 1⟩
def args0 : Array Value := #[.int 2, .int 5, .int 3, .int 1]
def aboutOver (below : List Frame) : State where
  vm := { classes := classes, interned := interned.toArray }
  heap := heap
  slotsUsed := slotsUsed
  threads := #[{ frames := .invoking theMethod args0 :: below }]
def below0 : List Frame := [.native { method := ⟨0, 0⟩, args := #[] }]
def about1 : State := aboutOver below0
def p0 : Program := .bare "" "" ""
def e0 : Env := launch0.env 0 0 0
theorem w_frames : about1.frames = Frame.invoking theMethod args0 :: below0 := rfl
set_option maxRecDepth 65536 in
theorem w_args : argsFit about1.vm theMethod args0 = true := by decide +kernel
set_option maxRecDepth 65536 in
theorem w_heap : heapFits about1 = true := by decide +kernel
set_option maxRecDepth 65536 in
theorem w_runnable : about1.curStatus? = some .runnable := by decide +kernel
set_option maxRecDepth 65536 in
theorem w_alone : about1.alone = true := by decide +kernel
set_option maxRecDepth 65536 in
theorem w_named : about1.methodNamed? x = some theMethod := by decide +kernel
set_option maxRecDepth 65536 in
theorem w_hears : about1.hears theMethod below0 = true := by decide +kernel
set_option maxRecDepth 65536 in
theorem w_ripe : about1.ripe theMethod args0 below0 = true := by decide +kernel
theorem w_running : about1.status = .running := rfl
set_option maxRecDepth 65536 in
theorem w_room : about1.hasRoom e0.platform room_1 = true :=
  launch0.hasRoom_least _ room_1 (by decide +kernel) (by decide +kernel) (by decide +kernel) (by decide +kernel) (by decide +kernel) (by decide +kernel)
theorem allAtoms_all (ts : List Jvm.Cond) (a : Array Jvm.Value) (st : Jvm.State) : (allAtoms ts).before a st = ts.all (fun c => c.before a st) := by
  induction ts with
  | nil => rfl
  | cons c t ih =>
    show (Jvm.Cond.and c (allAtoms t)).before a st = _
    rw [Jvm.Cond.before_and, ih, List.all_cons]
def words1 : List Jvm.Cond := Jvm.Cond.code x code maxLocals ret :: tables_1
/-- a 'code' word, met by the world's own term for the bytes: nothing is compared byte by byte -/
theorem code_word {y : MethodName} {bytes : ByteArray} {mx : Nat} {rt : Option FieldType} {a : Array Value} {s : State} {m : MethodId} {meth : Method} {c : Code} (h1 : s.methodNamed? y = some m) (h2 : s.vm.method? m = some meth) (h3 : meth.code = some c) (h4 : c.code = bytes)
    (h5 : (c.maxLocals == mx && c.exceptionTable.isEmpty && decide (c.maxStack ≤ mostOperands) && decide (meth.sig.returnType = rt) && !meth.locks && decide (parseMethodDescriptor y.desc = some meth.sig)) = true) : (Jvm.Cond.code y bytes mx rt).before a s = true := by
  simp only [Bool.and_eq_true, beq_iff_eq, Bool.not_eq_true', decide_eq_true_eq] at h5
  obtain ⟨⟨⟨⟨⟨g1, g2⟩, g3⟩, g4⟩, g5⟩, g6⟩ := h5
  simp [Cond.before, Cond.holds, Cond.value, h1, h2, h3, h4, g1, g2, g3, g4, g5, g6]
def isCode : Jvm.Cond → Bool
  | .code _ _ _ _ => true
  | _ => false
theorem all_split {L : List Jvm.Cond} {P : Jvm.Cond → Bool} (h1 : L.all (fun c => isCode c || P c) = true) (h2 : ∀ c ∈ L.filter isCode, P c = true) : L.all P = true := by
  refine List.all_eq_true.mpr fun c hc => ?_
  have h := List.all_eq_true.mp h1 c hc
  rcases Bool.eq_false_or_eq_true (isCode c) with hi | hi
  · exact h2 c (List.mem_filter.mpr ⟨hc, hi⟩)
  · simpa [hi] using h
set_option maxRecDepth 65536 in
theorem w_c0 : (Jvm.Cond.code x code maxLocals ret).before args0 about1 = true := code_word (m := ⟨1, 1⟩) (meth := k1m1) (c := k1c1) (by decide +kernel) rfl rfl rfl (by decide +kernel)
set_option maxRecDepth 65536 in
theorem w_c1 : (Jvm.Cond.code ({ cls := "com/example/opt2/opt2/plan/Plan", name := "<init>", desc := "([I)V" } : Jvm.MethodName) prog_32_method_1_code (2 : Nat) (Option.none : Option Jvm.ClassFile.FieldType)).before args0 about1 = true := code_word (m := ⟨2, 0⟩) (meth := k2m0) (c := k2c0) (by decide +kernel) rfl rfl rfl (by decide +kernel)
set_option maxRecDepth 65536 in
theorem w_c2 : (Jvm.Cond.code ({ cls := "com/example/opt2/opt2/plan/Plan", name := "<init>", desc := "([I[[ID)V" } : Jvm.MethodName) prog_32_method_4_code (5 : Nat) (Option.none : Option Jvm.ClassFile.FieldType)).before args0 about1 = true := code_word (m := ⟨2, 2⟩) (meth := k2m2) (c := k2c2) (by decide +kernel) rfl rfl rfl (by decide +kernel)
set_option maxRecDepth 65536 in
theorem w_c3 : (Jvm.Cond.code ({ cls := "java/lang/Object", name := "<init>", desc := "()V" } : Jvm.MethodName) object_method_1_code (1 : Nat) (Option.none : Option Jvm.ClassFile.FieldType)).before args0 about1 = true := code_word (m := ⟨0, 0⟩) (meth := k0m0) (c := k0c0) (by decide +kernel) rfl rfl rfl (by decide +kernel)
set_option maxRecDepth 65536 in
theorem w_c4 : (Jvm.Cond.code ({ cls := "com/example/opt2/opt2/plan/Plan", name := "<init>", desc := "([I[[I)V" } : Jvm.MethodName) prog_32_method_2_code (3 : Nat) (Option.none : Option Jvm.ClassFile.FieldType)).before args0 about1 = true := code_word (m := ⟨2, 1⟩) (meth := k2m1) (c := k2c1) (by decide +kernel) rfl rfl rfl (by decide +kernel)
set_option maxRecDepth 65536 in
theorem w_c5 : (Jvm.Cond.code ({ cls := "com/example/opt2/opt2/plan/Plan", name := "machines", desc := "(I)[I" } : Jvm.MethodName) prog_32_method_6_code (2 : Nat) (Option.some (Jvm.ClassFile.FieldType.array Jvm.ClassFile.FieldType.int))).before args0 about1 = true := code_word (m := ⟨2, 3⟩) (meth := k2m3) (c := k2c3) (by decide +kernel) rfl rfl rfl (by decide +kernel)
def codes1 : List Jvm.Cond := [Jvm.Cond.code x code maxLocals ret, Jvm.Cond.code ({ cls := "com/example/opt2/opt2/plan/Plan", name := "<init>", desc := "([I)V" } : Jvm.MethodName) prog_32_method_1_code (2 : Nat) (Option.none : Option Jvm.ClassFile.FieldType), Jvm.Cond.code ({ cls := "com/example/opt2/opt2/plan/Plan", name := "<init>", desc := "([I[[ID)V" } : Jvm.MethodName) prog_32_method_4_code (5 : Nat) (Option.none : Option Jvm.ClassFile.FieldType), Jvm.Cond.code ({ cls := "java/lang/Object", name := "<init>", desc := "()V" } : Jvm.MethodName) object_method_1_code (1 : Nat) (Option.none : Option Jvm.ClassFile.FieldType), Jvm.Cond.code ({ cls := "com/example/opt2/opt2/plan/Plan", name := "<init>", desc := "([I[[I)V" } : Jvm.MethodName) prog_32_method_2_code (3 : Nat) (Option.none : Option Jvm.ClassFile.FieldType), Jvm.Cond.code ({ cls := "com/example/opt2/opt2/plan/Plan", name := "machines", desc := "(I)[I" } : Jvm.MethodName) prog_32_method_6_code (2 : Nat) (Option.some (Jvm.ClassFile.FieldType.array Jvm.ClassFile.FieldType.int))]
set_option maxRecDepth 65536 in
theorem codes_eq : words1.filter isCode = codes1 := rfl
theorem w_codes : ∀ c ∈ words1.filter isCode, c.before args0 about1 = true := by
  rw [codes_eq]
  intro c hc
  simp only [codes1, List.mem_cons, List.not_mem_nil, or_false] at hc
  rcases hc with rfl | rfl | rfl | rfl | rfl | rfl
  · exact w_c0
  · exact w_c1
  · exact w_c2
  · exact w_c3
  · exact w_c4
  · exact w_c5
set_option maxRecDepth 65536 in
theorem w_t1 : (words1.take 24).all (fun c => isCode c || c.before args0 about1) = true := by decide +kernel
set_option maxRecDepth 65536 in
theorem w_t2 : (words1.drop 24).all (fun c => isCode c || c.before args0 about1) = true := by decide +kernel
theorem w_tables : (allAtoms (Jvm.Cond.code x code maxLocals ret :: tables_1)).before args0 about1 = true := by
  rw [allAtoms_all]
  show words1.all (fun c => c.before args0 about1) = true
  refine all_split ?_ w_codes
  rw [← List.take_append_drop 24 words1, List.all_append, w_t1, w_t2]
  rfl
set_option maxRecDepth 65536 in
theorem w_case : (Jvm.Cond.and given_1 narrow_1).before args0 about1 = true := by decide +kernel
theorem w_applies : (headSpec (Jvm.Cond.code x code maxLocals ret :: tables_1) room_1).applies x e0.platform about1 = true :=
  (Spec.applies_iff w_frames).mpr ⟨w_running, w_runnable, w_alone, w_named, w_hears, w_ripe, w_room, w_tables⟩
theorem atStart : AtStart classFile x code maxLocals ret World_1 tables_1 room_1 Calls_1 rest_1 Pre_1 launch0 p0 e0 about1 theMethod args0 below0 :=
  ⟨lists_1, trivial, launch0.admits_env _ _ _, launch0.least_env, fairChoices_fair.cas, fairChoices_fair.clock, w_frames, w_args, w_heap, w_applies, trivial, trivial, w_case⟩
end start1
theorem witness_1 : WitnessClaimed_1 := ⟨start1.p0, start1.e0, start1.about1, start1.theMethod, start1.args0, start1.below0, start1.atStart⟩
end Jvm.Pilot.@@N@@
