import JvmDerived
import JvmDerived.Pilot.@@N@@Statement
import JvmDerived.Pilot.@@N@@Code
set_option linter.unusedVariables false
set_option linter.unusedSimpArgs false
namespace Jvm.RoadKit
open Sem ClassFile Op Lib Jvm.Stand Jvm.Free Jvm.LawKit
section New
variable {p : Program} {l : Launch} {e : Env} {R : Room} {s : State} {m : MethodId} {args : Array Value} {below : List Frame} {meth : Method} {c : Code} {T : State} {locs : List Loc} {cells slots : Nat}
theorem retI (X : Stand p l e R s m args below meth c T locs cells slots) (hx : p.tables.exec = Jvm.exec) {pc : Nat} {Ls : Array Slot} {z : Int32} {rest : List Value} (hret : meth.sig.returnType = some .int) (hd : decode c.code pc = .ok (.ireturn, 1)) {fs : List Frame}
    (hl : ∀ (f : JFrame) (acts : List Action), f.method = m → f.locked = none → f.entered = [] → (doReturn e (T.setTop f) acts (some (.int z))).1 = T.setFrames fs) : Steps p.tables e below (T.setTop (mkF m pc Ls (.int z :: rest))) (T.setFrames fs) := by
  have hm' : T.vm.method? m = some meth := X.method'
  have hn : narrow .int (.int z) = .int z := rfl
  show Steps p.tables e below (T.setTop { method := m, pc := pc, locals := Ls, stack := _ :: rest, locked := none }) _
  jvm_step X.here [X.here.top, hx, hd, hm', hret, hn]
  first | (intro acts; rw [hl _ acts rfl rfl rfl]) | rw [hl _ _ rfl rfl rfl]
  exact Steps.refl _
end New
end Jvm.RoadKit
namespace Jvm.Pilot.@@N@@
open Jvm Jvm.ClassFile Sem Op Lib Jvm.Free Jvm.Stand Jvm.LawKit Jvm.RoadKit Bundle Jvm.Pilot.@@N@@.Jvm.D
/-! own: the rest of a run, told backwards; the contract of a body; steps and calls -/
section OwnBase
variable {p : Program} {l : Launch} {e : Env} {R : Room} {s : State} {m : MethodId} {args : Array Value} {below : List Frame} {meth : Method} {c : Code} {T : State} {locs : List Loc} {cells slots : Nat} {Z : State} {a0 : Array Value} {h : Heap} {bs : ByteArray} {pc q : Nat} {Ls : Array Slot} {S : List Value} {G : State → Prop}
abbrev PQ := Option Value → Heap → List Loc → Prop
def Cl (p : Program) (e : Env) (below : List Frame) (G : State → Prop) : Prop := ∀ (A B : State), (∀ t, Steps p.tables e below B t → Steps p.tables e below A t) → G B → G A
def Go (p : Program) (e : Env) (below : List Frame) (s : State) (C N : Nat) (Q : PQ) (A : State) : Prop :=
  ∃ s₂ o, Steps p.tables e below A s₂ ∧ s₂.status = .running ∧ Ended s₂ below o ∧ ∃ v L, o = .returned v ∧ Q v s₂.heap L ∧ FrameEnd s o s₂ L C N
theorem Go.cl {C N : Nat} {Q : PQ} : Cl p e below (Go p e below s C N Q) := fun A B k ⟨s2, o, h1, r⟩ => ⟨s2, o, k _ h1, r⟩
theorem Go.with {C N : Nat} {Q : PQ} {A : State} (k : Cl p e below (Go p e below s C N Q) → Go p e below s C N Q A) : Go p e below s C N Q A := k Go.cl
theorem Go.leave (X : Stand p l e R s m args below meth c T locs cells slots) {v : Option Value} (hv : meth.sig.returnType = none → v = none) (hlk : meth.locks = false) {C N : Nat} {Q : PQ} (hc : cells ≤ C) (hn : slots ≤ N) (q : Q v T.heap locs) {A : State}
    (k : ∀ fs, (∀ (f : JFrame) (acts : List Action), f.method = m → f.locked = none → f.entered = [] → (doReturn e (T.setTop f) acts v).1 = T.setFrames fs) → Steps p.tables e below A (T.setFrames fs)) : Go p e below s C N Q A := by
  obtain ⟨fs, hr, hrun, hended, hW, hsame⟩ := X.leave hv hlk
  exact ⟨_, _, k fs hr, hrun, hended, _, _, rfl, q, ⟨_, rfl⟩, hW, hsame.mono hc hn⟩
theorem Go.retI (X : Stand p l e R s m args below meth c T locs cells slots) (hx : p.tables.exec = Jvm.exec) (hby : c.code = bs) (hlk : meth.locks = false) {z : Int32} (hret : meth.sig.returnType = some .int) (hd : decode bs pc = .ok (.ireturn, 1)) {C N : Nat} {Q : PQ} (hc : cells ≤ C) (hn : slots ≤ N) (q : Q (some (.int z)) T.heap locs) :
    Go p e below s C N Q (T.setTop (mkF m pc Ls (.int z :: S))) :=
  Go.leave X (fun h => by rw [hret] at h; cases h) hlk hc hn q fun _ hr => Jvm.RoadKit.retI X hx hret (hb hby hd) hr
theorem Go.retN (X : Stand p l e R s m args below meth c T locs cells slots) (hx : p.tables.exec = Jvm.exec) (hby : c.code = bs) (hlk : meth.locks = false) {z : Int32} {t : FieldType} (hret : meth.sig.returnType = some t) (ht : t = .boolean ∨ t = .byte ∨ t = .char ∨ t = .short) (hd : decode bs pc = .ok (.ireturn, 1)) {C N : Nat} {Q : PQ} (hc : cells ≤ C) (hn : slots ≤ N) (hz : nar t z = z) (q : Q (some (.int z)) T.heap locs) :
    Go p e below s C N Q (T.setTop (mkF m pc Ls (.int z :: S))) :=
  Go.leave X (fun h => by rw [hret] at h; cases h) hlk hc hn q fun _ hr => Jvm.RoadKit.retN X hx hret ht (hb hby hd) (by rw [hz]; exact hr)
theorem Go.retV (X : Stand p l e R s m args below meth c T locs cells slots) (hx : p.tables.exec = Jvm.exec) (hby : c.code = bs) (hlk : meth.locks = false) (hret : meth.sig.returnType = none) (hd : decode bs pc = .ok (.return_, 1)) {C N : Nat} {Q : PQ} (hc : cells ≤ C) (hn : slots ≤ N) (q : Q none T.heap locs) :
    Go p e below s C N Q (T.setTop (mkF m pc Ls [])) :=
  Go.leave X (fun _ => rfl) hlk hc hn q fun _ hr => X.returnOut hx hret (hb hby hd) hr
theorem Go.retO (X : Stand p l e R s m args below meth c T locs cells slots) (hx : p.tables.exec = Jvm.exec) (hby : c.code = bs) (hlk : meth.locks = false) {w : Value} {t : FieldType} {i : Instr} (hret : meth.sig.returnType = some t) (hnw : narrow t w = w)
    (hi : (i = .ireturn ∧ (t = .int ∨ t = .boolean ∨ t = .byte ∨ t = .char ∨ t = .short) ∧ ∃ z, w = .int z) ∨ (i = .lreturn ∧ t = .long ∧ ∃ z, w = .long z) ∨ (i = .dreturn ∧ t = .double ∧ ∃ z, w = .double z) ∨ (i = .freturn ∧ t = .float ∧ ∃ z, w = .float z) ∨ (i = .areturn ∧ t.isReference = true ∧ w.isRef = true))
    (hd : decode bs pc = .ok (i, 1)) {C N : Nat} {Q : PQ} (hc : cells ≤ C) (hn : slots ≤ N) (q : Q (some w) T.heap locs) :
    Go p e below s C N Q (T.setTop (mkF m pc Ls (w :: S))) :=
  Go.leave X (fun h => by rw [hret] at h; cases h) hlk hc hn q fun _ hr => Jvm.RoadKit.retOut X hx hret hnw hi (hb hby hd) hr
/-- two roads meet: at a state like X's, at the heap h, with the frame g' -/
def Mx (X : Stand p l e R s m args below meth c T locs cells slots) (h : Heap) (g' : JFrame) (A : State) : Prop := ∃ T', Stand p l e R s m args below meth c T' locs cells slots ∧ T'.heap = h ∧ ∀ t, Steps p.tables e below (T'.setTop g') t → Steps p.tables e below A t
theorem Mx.cl {X : Stand p l e R s m args below meth c T locs cells slots} {g' : JFrame} : Cl p e below (Mx X h g') := fun A B k ⟨T', X', e', st⟩ => ⟨T', X', e', fun t r => k _ (st t r)⟩
theorem Mx.with {X : Stand p l e R s m args below meth c T locs cells slots} {g' : JFrame} {A : State} (k : Cl p e below (Mx X h g') → Mx X h g' A) : Mx X h g' A := k Mx.cl
theorem Mx.here {X : Stand p l e R s m args below meth c T locs cells slots} {g' : JFrame} {T' : State} (X' : Stand p l e R s m args below meth c T' locs cells slots) (e' : T'.heap = h) : Mx X h g' (T'.setTop g') := ⟨T', X', e', fun _ k => k⟩
theorem own_nar01 {z : Int32} (h : z = 0 ∨ z = 1) : nar .boolean z = z := by rcases h with rfl | rfl <;> rfl
theorem own_px (X : Stand p l e R s m args below meth c T (locs ++ []) (cells + 0) (slots + 0)) : Stand p l e R s m args below meth c T locs cells slots := by rw [List.append_nil] at X; exact X
theorem k_go (K : Cl p e below G) {A B : State} (st : ∀ t, Steps p.tables e below B t → Steps p.tables e below A t) (hr : G B) : G A := K A B st hr
theorem k_some (K : Cl p e below G) {w : Value} (hr : G (T.setTop (mkF m q Ls (w :: S)))) : G (T.setTop (mkF m q Ls ((some w).toList ++ S))) := hr
theorem k_none (K : Cl p e below G) (hr : G (T.setTop (mkF m q Ls S))) : G (T.setTop (mkF m q Ls ((none : Option Value).toList ++ S))) := hr
theorem own_irem (x y : Int32) : x - (x / y) * y = x % y := by
  apply Int32.toInt_inj.mp
  have h1 := Int32.le_toInt (x % y)
  have h2 := Int32.toInt_lt (x % y)
  rw [Int32.toInt_sub, Int32.toInt_mul, Int32.toInt_div, Int.bmod_mul_bmod, Int.sub_bmod_bmod, Int.mul_comm (x.toInt.tdiv y.toInt), ← Int.tmod_def, ← Int32.toInt_mod]
  exact Int.bmod_eq_of_le_mul_two (by omega) (by omega)
theorem m_iload (K : Cl p e below G) (h : At T m c below) (hx : p.tables.exec = Jvm.exec) (hby : c.code = bs) {k : Nat} {v : Int32} (hd : decode bs pc = .ok (.iload k, 2)) (hl : Ls[k]? = some (.val (.int v))) (hq : pc + 2 = q) (hr : G (T.setTop (mkF m q Ls (.int v :: S)))) : G (T.setTop (mkF m pc Ls S)) := by subst hq; exact K _ _ (fun t k => Jvm.Free.XS.iload h hx rfl (hb hby hd) hl k) hr
theorem m_iloadN (K : Cl p e below G) (h : At T m c below) (hx : p.tables.exec = Jvm.exec) (hby : c.code = bs) {k : Fin 4} {v : Int32} (hd : decode bs pc = .ok (.iload_n k, 1)) (hl : Ls[k.val]? = some (.val (.int v))) (hq : pc + 1 = q) (hr : G (T.setTop (mkF m q Ls (.int v :: S)))) : G (T.setTop (mkF m pc Ls S)) := by subst hq; exact K _ _ (fun t k => Jvm.Free.XS.iloadN h hx rfl (hb hby hd) hl k) hr
theorem m_istore (K : Cl p e below G) (h : At T m c below) (hx : p.tables.exec = Jvm.exec) (hby : c.code = bs) {k : Nat} {v : Int32} (l' : Array Slot) (hd : decode bs pc = .ok (.istore k, 2)) (hl : storeLocals Ls k (.int v) = some l') (hq : pc + 2 = q) (hr : G (T.setTop (mkF m q l' S))) : G (T.setTop (mkF m pc Ls (.int v :: S))) := by subst hq; exact K _ _ (fun t k => Jvm.Free.XS.istore h hx rfl (hb hby hd) rfl hl k) hr
theorem m_istoreN (K : Cl p e below G) (h : At T m c below) (hx : p.tables.exec = Jvm.exec) (hby : c.code = bs) {k : Fin 4} {v : Int32} (l' : Array Slot) (hd : decode bs pc = .ok (.istore_n k, 1)) (hl : storeLocals Ls k.val (.int v) = some l') (hq : pc + 1 = q) (hr : G (T.setTop (mkF m q l' S))) : G (T.setTop (mkF m pc Ls (.int v :: S))) := by subst hq; exact K _ _ (fun t k => Jvm.Free.XS.istoreN h hx rfl (hb hby hd) rfl hl k) hr
theorem m_lload (K : Cl p e below G) (h : At T m c below) (hx : p.tables.exec = Jvm.exec) (hby : c.code = bs) {k : Nat} {v : Int64} (hd : decode bs pc = .ok (.lload k, 2)) (hl : Ls[k]? = some (.val (.long v))) (hq : pc + 2 = q) (hr : G (T.setTop (mkF m q Ls (.long v :: S)))) : G (T.setTop (mkF m pc Ls S)) := by subst hq; exact K _ _ (fun t k => Jvm.Free.XS.lload h hx rfl (hb hby hd) hl k) hr
theorem m_lloadN (K : Cl p e below G) (h : At T m c below) (hx : p.tables.exec = Jvm.exec) (hby : c.code = bs) {k : Fin 4} {v : Int64} (hd : decode bs pc = .ok (.lload_n k, 1)) (hl : Ls[k.val]? = some (.val (.long v))) (hq : pc + 1 = q) (hr : G (T.setTop (mkF m q Ls (.long v :: S)))) : G (T.setTop (mkF m pc Ls S)) := by subst hq; exact K _ _ (fun t k => Jvm.Free.XS.lloadN h hx rfl (hb hby hd) hl k) hr
theorem m_lstore (K : Cl p e below G) (h : At T m c below) (hx : p.tables.exec = Jvm.exec) (hby : c.code = bs) {k : Nat} {v : Int64} (l' : Array Slot) (hd : decode bs pc = .ok (.lstore k, 2)) (hl : storeLocals Ls k (.long v) = some l') (hq : pc + 2 = q) (hr : G (T.setTop (mkF m q l' S))) : G (T.setTop (mkF m pc Ls (.long v :: S))) := by subst hq; exact K _ _ (fun t k => Jvm.Free.XS.lstore h hx rfl (hb hby hd) rfl hl k) hr
theorem m_lstoreN (K : Cl p e below G) (h : At T m c below) (hx : p.tables.exec = Jvm.exec) (hby : c.code = bs) {k : Fin 4} {v : Int64} (l' : Array Slot) (hd : decode bs pc = .ok (.lstore_n k, 1)) (hl : storeLocals Ls k.val (.long v) = some l') (hq : pc + 1 = q) (hr : G (T.setTop (mkF m q l' S))) : G (T.setTop (mkF m pc Ls (.long v :: S))) := by subst hq; exact K _ _ (fun t k => Jvm.Free.XS.lstoreN h hx rfl (hb hby hd) rfl hl k) hr
theorem m_dload (K : Cl p e below G) (h : At T m c below) (hx : p.tables.exec = Jvm.exec) (hby : c.code = bs) {k : Nat} {v : UInt64} (hd : decode bs pc = .ok (.dload k, 2)) (hl : Ls[k]? = some (.val (.double v))) (hq : pc + 2 = q) (hr : G (T.setTop (mkF m q Ls (.double v :: S)))) : G (T.setTop (mkF m pc Ls S)) := by subst hq; exact K _ _ (fun t k => Jvm.Free.XS.dload h hx rfl (hb hby hd) hl k) hr
theorem m_dloadN (K : Cl p e below G) (h : At T m c below) (hx : p.tables.exec = Jvm.exec) (hby : c.code = bs) {k : Fin 4} {v : UInt64} (hd : decode bs pc = .ok (.dload_n k, 1)) (hl : Ls[k.val]? = some (.val (.double v))) (hq : pc + 1 = q) (hr : G (T.setTop (mkF m q Ls (.double v :: S)))) : G (T.setTop (mkF m pc Ls S)) := by subst hq; exact K _ _ (fun t k => Jvm.Free.XS.dloadN h hx rfl (hb hby hd) hl k) hr
theorem m_dstore (K : Cl p e below G) (h : At T m c below) (hx : p.tables.exec = Jvm.exec) (hby : c.code = bs) {k : Nat} {v : UInt64} (l' : Array Slot) (hd : decode bs pc = .ok (.dstore k, 2)) (hl : storeLocals Ls k (.double v) = some l') (hq : pc + 2 = q) (hr : G (T.setTop (mkF m q l' S))) : G (T.setTop (mkF m pc Ls (.double v :: S))) := by subst hq; exact K _ _ (fun t k => Jvm.Free.XS.dstore h hx rfl (hb hby hd) rfl hl k) hr
theorem m_dstoreN (K : Cl p e below G) (h : At T m c below) (hx : p.tables.exec = Jvm.exec) (hby : c.code = bs) {k : Fin 4} {v : UInt64} (l' : Array Slot) (hd : decode bs pc = .ok (.dstore_n k, 1)) (hl : storeLocals Ls k.val (.double v) = some l') (hq : pc + 1 = q) (hr : G (T.setTop (mkF m q l' S))) : G (T.setTop (mkF m pc Ls (.double v :: S))) := by subst hq; exact K _ _ (fun t k => Jvm.Free.XS.dstoreN h hx rfl (hb hby hd) rfl hl k) hr
theorem m_aload (K : Cl p e below G) (h : At T m c below) (hx : p.tables.exec = Jvm.exec) (hby : c.code = bs) {k : Nat} {v : Value} (hd : decode bs pc = .ok (.aload k, 2)) (hl : Ls[k]? = some (.val v)) (hv : v.isRef = true) (hq : pc + 2 = q) (hr : G (T.setTop (mkF m q Ls (v :: S)))) : G (T.setTop (mkF m pc Ls S)) := by subst hq; exact K _ _ (fun t k => Jvm.Free.XS.aload h hx rfl (hb hby hd) hl hv k) hr
theorem m_aloadN (K : Cl p e below G) (h : At T m c below) (hx : p.tables.exec = Jvm.exec) (hby : c.code = bs) {k : Fin 4} {v : Value} (hd : decode bs pc = .ok (.aload_n k, 1)) (hl : Ls[k.val]? = some (.val v)) (hv : v.isRef = true) (hq : pc + 1 = q) (hr : G (T.setTop (mkF m q Ls (v :: S)))) : G (T.setTop (mkF m pc Ls S)) := by subst hq; exact K _ _ (fun t k => Jvm.Free.XS.aloadN h hx rfl (hb hby hd) hl hv k) hr
theorem m_astore (K : Cl p e below G) (h : At T m c below) (hx : p.tables.exec = Jvm.exec) (hby : c.code = bs) {k : Nat} {v : Value} (l' : Array Slot) (hd : decode bs pc = .ok (.astore k, 2)) (hv : v.isRef = true) (hl : storeLocals Ls k v = some l') (hq : pc + 2 = q) (hr : G (T.setTop (mkF m q l' S))) : G (T.setTop (mkF m pc Ls (v :: S))) := by subst hq; exact K _ _ (fun t k => Jvm.Free.XS.astore h hx rfl (hb hby hd) rfl hv hl k) hr
theorem m_astoreN (K : Cl p e below G) (h : At T m c below) (hx : p.tables.exec = Jvm.exec) (hby : c.code = bs) {k : Fin 4} {v : Value} (l' : Array Slot) (hd : decode bs pc = .ok (.astore_n k, 1)) (hv : v.isRef = true) (hl : storeLocals Ls k.val v = some l') (hq : pc + 1 = q) (hr : G (T.setTop (mkF m q l' S))) : G (T.setTop (mkF m pc Ls (v :: S))) := by subst hq; exact K _ _ (fun t k => Jvm.Free.XS.astoreN h hx rfl (hb hby hd) rfl hv hl k) hr
theorem m_iconst (K : Cl p e below G) (h : At T m c below) (hx : p.tables.exec = Jvm.exec) (hby : c.code = bs) {i : Int} (z : Int32) (hd : decode bs pc = .ok (.iconst i, 1)) (hz : Int32.ofInt i = z) (hq : pc + 1 = q) (hr : G (T.setTop (mkF m q Ls (.int z :: S)))) : G (T.setTop (mkF m pc Ls S)) := by subst hq; subst hz; exact K _ _ (fun t k => Jvm.Free.XS.iconst h hx rfl (hb hby hd) k) hr
theorem m_bipush (K : Cl p e below G) (h : At T m c below) (hx : p.tables.exec = Jvm.exec) (hby : c.code = bs) {i : Int} (z : Int32) (hd : decode bs pc = .ok (.bipush i, 2)) (hz : (Int8.ofInt i).toInt32 = z) (hq : pc + 2 = q) (hr : G (T.setTop (mkF m q Ls (.int z :: S)))) : G (T.setTop (mkF m pc Ls S)) := by subst hq; subst hz; exact K _ _ (fun t k => Jvm.Free.XS.bipush h hx rfl (hb hby hd) k) hr
theorem m_sipush (K : Cl p e below G) (h : At T m c below) (hx : p.tables.exec = Jvm.exec) (hby : c.code = bs) {i : Int} (z : Int32) (hd : decode bs pc = .ok (.sipush i, 3)) (hz : (Int16.ofInt i).toInt32 = z) (hq : pc + 3 = q) (hr : G (T.setTop (mkF m q Ls (.int z :: S)))) : G (T.setTop (mkF m pc Ls S)) := by subst hq; subst hz; exact K _ _ (fun t k => Jvm.Free.XS.sipush h hx rfl (hb hby hd) k) hr
theorem m_lconst (K : Cl p e below G) (h : At T m c below) (hx : p.tables.exec = Jvm.exec) (hby : c.code = bs) {k : Fin 2} (z : Int64) (hd : decode bs pc = .ok (.lconst k, 1)) (hz : Int64.ofNat k.val = z) (hq : pc + 1 = q) (hr : G (T.setTop (mkF m q Ls (.long z :: S)))) : G (T.setTop (mkF m pc Ls S)) := by subst hq; subst hz; exact K _ _ (fun t k => Jvm.Free.XS.lconst h hx rfl (hb hby hd) k) hr
theorem m_null (K : Cl p e below G) (h : At T m c below) (hx : p.tables.exec = Jvm.exec) (hby : c.code = bs)  (hd : decode bs pc = .ok (.aconst_null, 1)) (hq : pc + 1 = q) (hr : G (T.setTop (mkF m q Ls (.null :: S)))) : G (T.setTop (mkF m pc Ls S)) := by subst hq; exact K _ _ (fun t k => Jvm.Free.XS.aconstNull h hx rfl (hb hby hd) k) hr
theorem m_iadd (K : Cl p e below G) (h : At T m c below) (hx : p.tables.exec = Jvm.exec) (hby : c.code = bs) {x y : Int32} (z : Int32) (hd : decode bs pc = .ok (.iadd, 1)) (hz : x + y = z) (hq : pc + 1 = q) (hr : G (T.setTop (mkF m q Ls (.int z :: S)))) : G (T.setTop (mkF m pc Ls (.int y :: .int x :: S))) := by subst hq; subst hz; exact K _ _ (fun t k => Jvm.Free.XS.iadd h hx rfl (hb hby hd) rfl k) hr
theorem m_isub (K : Cl p e below G) (h : At T m c below) (hx : p.tables.exec = Jvm.exec) (hby : c.code = bs) {x y : Int32} (z : Int32) (hd : decode bs pc = .ok (.isub, 1)) (hz : x - y = z) (hq : pc + 1 = q) (hr : G (T.setTop (mkF m q Ls (.int z :: S)))) : G (T.setTop (mkF m pc Ls (.int y :: .int x :: S))) := by subst hq; subst hz; exact K _ _ (fun t k => Jvm.Free.XS.isub h hx rfl (hb hby hd) rfl k) hr
theorem m_imul (K : Cl p e below G) (h : At T m c below) (hx : p.tables.exec = Jvm.exec) (hby : c.code = bs) {x y : Int32} (z : Int32) (hd : decode bs pc = .ok (.imul, 1)) (hz : x * y = z) (hq : pc + 1 = q) (hr : G (T.setTop (mkF m q Ls (.int z :: S)))) : G (T.setTop (mkF m pc Ls (.int y :: .int x :: S))) := by subst hq; subst hz; exact K _ _ (fun t k => Jvm.Free.XS.imul h hx rfl (hb hby hd) rfl k) hr
theorem m_iand (K : Cl p e below G) (h : At T m c below) (hx : p.tables.exec = Jvm.exec) (hby : c.code = bs) {x y : Int32} (z : Int32) (hd : decode bs pc = .ok (.iand, 1)) (hz : x &&& y = z) (hq : pc + 1 = q) (hr : G (T.setTop (mkF m q Ls (.int z :: S)))) : G (T.setTop (mkF m pc Ls (.int y :: .int x :: S))) := by subst hq; subst hz; exact K _ _ (fun t k => Jvm.Free.XS.iand h hx rfl (hb hby hd) rfl k) hr
theorem m_ior (K : Cl p e below G) (h : At T m c below) (hx : p.tables.exec = Jvm.exec) (hby : c.code = bs) {x y : Int32} (z : Int32) (hd : decode bs pc = .ok (.ior, 1)) (hz : x ||| y = z) (hq : pc + 1 = q) (hr : G (T.setTop (mkF m q Ls (.int z :: S)))) : G (T.setTop (mkF m pc Ls (.int y :: .int x :: S))) := by subst hq; subst hz; exact K _ _ (fun t k => Jvm.Free.XS.ior h hx rfl (hb hby hd) rfl k) hr
theorem m_ixor (K : Cl p e below G) (h : At T m c below) (hx : p.tables.exec = Jvm.exec) (hby : c.code = bs) {x y : Int32} (z : Int32) (hd : decode bs pc = .ok (.ixor, 1)) (hz : x ^^^ y = z) (hq : pc + 1 = q) (hr : G (T.setTop (mkF m q Ls (.int z :: S)))) : G (T.setTop (mkF m pc Ls (.int y :: .int x :: S))) := by subst hq; subst hz; exact K _ _ (fun t k => Jvm.Free.XS.ixor h hx rfl (hb hby hd) rfl k) hr
theorem m_idiv (K : Cl p e below G) (h : At T m c below) (hx : p.tables.exec = Jvm.exec) (hby : c.code = bs) {x y : Int32} (z : Int32) (hd : decode bs pc = .ok (.idiv, 1)) (hy : y ≠ 0) (hz : x / y = z) (hq : pc + 1 = q) (hr : G (T.setTop (mkF m q Ls (.int z :: S)))) : G (T.setTop (mkF m pc Ls (.int y :: .int x :: S))) := by subst hq; subst hz; exact K _ _ (fun t k => Jvm.Free.XS.idiv h hx rfl (hb hby hd) rfl hy k) hr
theorem m_ladd (K : Cl p e below G) (h : At T m c below) (hx : p.tables.exec = Jvm.exec) (hby : c.code = bs) {x y : Int64} (z : Int64) (hd : decode bs pc = .ok (.ladd, 1)) (hz : x + y = z) (hq : pc + 1 = q) (hr : G (T.setTop (mkF m q Ls (.long z :: S)))) : G (T.setTop (mkF m pc Ls (.long y :: .long x :: S))) := by subst hq; subst hz; exact K _ _ (fun t k => Jvm.Free.XS.ladd h hx rfl (hb hby hd) rfl k) hr
theorem m_lsub (K : Cl p e below G) (h : At T m c below) (hx : p.tables.exec = Jvm.exec) (hby : c.code = bs) {x y : Int64} (z : Int64) (hd : decode bs pc = .ok (.lsub, 1)) (hz : x - y = z) (hq : pc + 1 = q) (hr : G (T.setTop (mkF m q Ls (.long z :: S)))) : G (T.setTop (mkF m pc Ls (.long y :: .long x :: S))) := by subst hq; subst hz; exact K _ _ (fun t k => Jvm.Free.XS.lsub h hx rfl (hb hby hd) rfl k) hr
theorem m_lmul (K : Cl p e below G) (h : At T m c below) (hx : p.tables.exec = Jvm.exec) (hby : c.code = bs) {x y : Int64} (z : Int64) (hd : decode bs pc = .ok (.lmul, 1)) (hz : x * y = z) (hq : pc + 1 = q) (hr : G (T.setTop (mkF m q Ls (.long z :: S)))) : G (T.setTop (mkF m pc Ls (.long y :: .long x :: S))) := by subst hq; subst hz; exact K _ _ (fun t k => Jvm.Free.XS.lmul h hx rfl (hb hby hd) rfl k) hr
theorem m_land (K : Cl p e below G) (h : At T m c below) (hx : p.tables.exec = Jvm.exec) (hby : c.code = bs) {x y : Int64} (z : Int64) (hd : decode bs pc = .ok (.land, 1)) (hz : x &&& y = z) (hq : pc + 1 = q) (hr : G (T.setTop (mkF m q Ls (.long z :: S)))) : G (T.setTop (mkF m pc Ls (.long y :: .long x :: S))) := by subst hq; subst hz; exact K _ _ (fun t k => Jvm.Free.XS.land h hx rfl (hb hby hd) rfl k) hr
theorem m_lor (K : Cl p e below G) (h : At T m c below) (hx : p.tables.exec = Jvm.exec) (hby : c.code = bs) {x y : Int64} (z : Int64) (hd : decode bs pc = .ok (.lor, 1)) (hz : x ||| y = z) (hq : pc + 1 = q) (hr : G (T.setTop (mkF m q Ls (.long z :: S)))) : G (T.setTop (mkF m pc Ls (.long y :: .long x :: S))) := by subst hq; subst hz; exact K _ _ (fun t k => Jvm.Free.XS.lor h hx rfl (hb hby hd) rfl k) hr
theorem m_lxor (K : Cl p e below G) (h : At T m c below) (hx : p.tables.exec = Jvm.exec) (hby : c.code = bs) {x y : Int64} (z : Int64) (hd : decode bs pc = .ok (.lxor, 1)) (hz : x ^^^ y = z) (hq : pc + 1 = q) (hr : G (T.setTop (mkF m q Ls (.long z :: S)))) : G (T.setTop (mkF m pc Ls (.long y :: .long x :: S))) := by subst hq; subst hz; exact K _ _ (fun t k => Jvm.Free.XS.lxor h hx rfl (hb hby hd) rfl k) hr
theorem m_ldiv (K : Cl p e below G) (h : At T m c below) (hx : p.tables.exec = Jvm.exec) (hby : c.code = bs) {x y : Int64} (z : Int64) (hd : decode bs pc = .ok (.ldiv, 1)) (hy : y ≠ 0) (hz : x / y = z) (hq : pc + 1 = q) (hr : G (T.setTop (mkF m q Ls (.long z :: S)))) : G (T.setTop (mkF m pc Ls (.long y :: .long x :: S))) := by subst hq; subst hz; exact K _ _ (fun t k => Jvm.Free.XS.ldiv h hx rfl (hb hby hd) rfl hy k) hr
theorem m_irem (K : Cl p e below G) (h : At T m c below) (hx : p.tables.exec = Jvm.exec) (hby : c.code = bs) {x y : Int32} (z : Int32) (hd : decode bs pc = .ok (.irem, 1)) (hy : y ≠ 0) (hz : x % y = z) (hq : pc + 1 = q) (hr : G (T.setTop (mkF m q Ls (.int z :: S)))) : G (T.setTop (mkF m pc Ls (.int y :: .int x :: S))) := by subst hq; subst hz; rw [← own_irem] at hr; exact K _ _ (fun t k => Jvm.Free.XS.irem h hx rfl (hb hby hd) rfl hy k) hr
theorem m_lrem (K : Cl p e below G) (h : At T m c below) (hx : p.tables.exec = Jvm.exec) (hby : c.code = bs) {x y : Int64} (z : Int64) (hd : decode bs pc = .ok (.lrem, 1)) (hy : y ≠ 0) (hz : x - (x / y) * y = z) (hq : pc + 1 = q) (hr : G (T.setTop (mkF m q Ls (.long z :: S)))) : G (T.setTop (mkF m pc Ls (.long y :: .long x :: S))) := by subst hq; subst hz; exact K _ _ (fun t k => Jvm.Free.XS.lrem h hx rfl (hb hby hd) rfl hy k) hr
theorem m_ishl (K : Cl p e below G) (h : At T m c below) (hx : p.tables.exec = Jvm.exec) (hby : c.code = bs) {x : Int32} {y : Int32} (z : Int32) (hd : decode bs pc = .ok (.ishl, 1)) (hz : x <<< (y &&& 31) = z) (hq : pc + 1 = q) (hr : G (T.setTop (mkF m q Ls (.int z :: S)))) : G (T.setTop (mkF m pc Ls (.int y :: .int x :: S))) := by subst hq; subst hz; exact K _ _ (fun t k => Jvm.Free.XS.ishl h hx rfl (hb hby hd) rfl k) hr
theorem m_ishr (K : Cl p e below G) (h : At T m c below) (hx : p.tables.exec = Jvm.exec) (hby : c.code = bs) {x : Int32} {y : Int32} (z : Int32) (hd : decode bs pc = .ok (.ishr, 1)) (hz : x >>> (y &&& 31) = z) (hq : pc + 1 = q) (hr : G (T.setTop (mkF m q Ls (.int z :: S)))) : G (T.setTop (mkF m pc Ls (.int y :: .int x :: S))) := by subst hq; subst hz; exact K _ _ (fun t k => Jvm.Free.XS.ishr h hx rfl (hb hby hd) rfl k) hr
theorem m_iushr (K : Cl p e below G) (h : At T m c below) (hx : p.tables.exec = Jvm.exec) (hby : c.code = bs) {x : Int32} {y : Int32} (z : Int32) (hd : decode bs pc = .ok (.iushr, 1)) (hz : (x.toUInt32 >>> (y &&& 31).toUInt32).toInt32 = z) (hq : pc + 1 = q) (hr : G (T.setTop (mkF m q Ls (.int z :: S)))) : G (T.setTop (mkF m pc Ls (.int y :: .int x :: S))) := by subst hq; subst hz; exact K _ _ (fun t k => Jvm.Free.XS.iushr h hx rfl (hb hby hd) rfl k) hr
theorem m_lshl (K : Cl p e below G) (h : At T m c below) (hx : p.tables.exec = Jvm.exec) (hby : c.code = bs) {x : Int64} {y : Int32} (z : Int64) (hd : decode bs pc = .ok (.lshl, 1)) (hz : x <<< (y &&& 0x3f).toInt64 = z) (hq : pc + 1 = q) (hr : G (T.setTop (mkF m q Ls (.long z :: S)))) : G (T.setTop (mkF m pc Ls (.int y :: .long x :: S))) := by subst hq; subst hz; exact K _ _ (fun t k => Jvm.Free.XS.lshl h hx rfl (hb hby hd) rfl k) hr
theorem m_lshr (K : Cl p e below G) (h : At T m c below) (hx : p.tables.exec = Jvm.exec) (hby : c.code = bs) {x : Int64} {y : Int32} (z : Int64) (hd : decode bs pc = .ok (.lshr, 1)) (hz : x >>> (y &&& 0x3f).toInt64 = z) (hq : pc + 1 = q) (hr : G (T.setTop (mkF m q Ls (.long z :: S)))) : G (T.setTop (mkF m pc Ls (.int y :: .long x :: S))) := by subst hq; subst hz; exact K _ _ (fun t k => Jvm.Free.XS.lshr h hx rfl (hb hby hd) rfl k) hr
theorem m_lushr (K : Cl p e below G) (h : At T m c below) (hx : p.tables.exec = Jvm.exec) (hby : c.code = bs) {x : Int64} {y : Int32} (z : Int64) (hd : decode bs pc = .ok (.lushr, 1)) (hz : (x.toUInt64 >>> (y &&& 0x3f).toInt64.toUInt64).toInt64 = z) (hq : pc + 1 = q) (hr : G (T.setTop (mkF m q Ls (.long z :: S)))) : G (T.setTop (mkF m pc Ls (.int y :: .long x :: S))) := by subst hq; subst hz; exact K _ _ (fun t k => Jvm.Free.XS.lushr h hx rfl (hb hby hd) rfl k) hr
theorem m_ineg (K : Cl p e below G) (h : At T m c below) (hx : p.tables.exec = Jvm.exec) (hby : c.code = bs) {x : Int32} (z : Int32) (hd : decode bs pc = .ok (.ineg, 1)) (hz : -x = z) (hq : pc + 1 = q) (hr : G (T.setTop (mkF m q Ls (.int z :: S)))) : G (T.setTop (mkF m pc Ls (.int x :: S))) := by subst hq; subst hz; exact K _ _ (fun t k => Jvm.Free.XS.ineg h hx rfl (hb hby hd) rfl k) hr
theorem m_lneg (K : Cl p e below G) (h : At T m c below) (hx : p.tables.exec = Jvm.exec) (hby : c.code = bs) {x : Int64} (z : Int64) (hd : decode bs pc = .ok (.lneg, 1)) (hz : -x = z) (hq : pc + 1 = q) (hr : G (T.setTop (mkF m q Ls (.long z :: S)))) : G (T.setTop (mkF m pc Ls (.long x :: S))) := by subst hq; subst hz; exact K _ _ (fun t k => Jvm.Free.XS.lneg h hx rfl (hb hby hd) rfl k) hr
theorem m_i2l (K : Cl p e below G) (h : At T m c below) (hx : p.tables.exec = Jvm.exec) (hby : c.code = bs) {x : Int32} (z : Int64) (hd : decode bs pc = .ok (.i2l, 1)) (hz : x.toInt64 = z) (hq : pc + 1 = q) (hr : G (T.setTop (mkF m q Ls (.long z :: S)))) : G (T.setTop (mkF m pc Ls (.int x :: S))) := by subst hq; subst hz; exact K _ _ (fun t k => Jvm.Free.XS.i2l h hx rfl (hb hby hd) rfl k) hr
theorem m_l2i (K : Cl p e below G) (h : At T m c below) (hx : p.tables.exec = Jvm.exec) (hby : c.code = bs) {x : Int64} (z : Int32) (hd : decode bs pc = .ok (.l2i, 1)) (hz : x.toInt32 = z) (hq : pc + 1 = q) (hr : G (T.setTop (mkF m q Ls (.int z :: S)))) : G (T.setTop (mkF m pc Ls (.long x :: S))) := by subst hq; subst hz; exact K _ _ (fun t k => Jvm.Free.XS.l2i h hx rfl (hb hby hd) rfl k) hr
theorem m_i2b (K : Cl p e below G) (h : At T m c below) (hx : p.tables.exec = Jvm.exec) (hby : c.code = bs) {x : Int32} (z : Int32) (hd : decode bs pc = .ok (.i2b, 1)) (hz : x.toInt8.toInt32 = z) (hq : pc + 1 = q) (hr : G (T.setTop (mkF m q Ls (.int z :: S)))) : G (T.setTop (mkF m pc Ls (.int x :: S))) := by subst hq; subst hz; exact K _ _ (fun t k => Jvm.Free.XS.i2b h hx rfl (hb hby hd) rfl k) hr
theorem m_i2s (K : Cl p e below G) (h : At T m c below) (hx : p.tables.exec = Jvm.exec) (hby : c.code = bs) {x : Int32} (z : Int32) (hd : decode bs pc = .ok (.i2s, 1)) (hz : x.toInt16.toInt32 = z) (hq : pc + 1 = q) (hr : G (T.setTop (mkF m q Ls (.int z :: S)))) : G (T.setTop (mkF m pc Ls (.int x :: S))) := by subst hq; subst hz; exact K _ _ (fun t k => Jvm.Free.XS.i2s h hx rfl (hb hby hd) rfl k) hr
theorem m_i2c (K : Cl p e below G) (h : At T m c below) (hx : p.tables.exec = Jvm.exec) (hby : c.code = bs) {x : Int32} (z : Int32) (hd : decode bs pc = .ok (.i2c, 1)) (hz : x.toUInt32.toUInt16.toUInt32.toInt32 = z) (hq : pc + 1 = q) (hr : G (T.setTop (mkF m q Ls (.int z :: S)))) : G (T.setTop (mkF m pc Ls (.int x :: S))) := by subst hq; subst hz; exact K _ _ (fun t k => Jvm.Free.XS.i2c h hx rfl (hb hby hd) rfl k) hr
theorem m_lcmp (K : Cl p e below G) (h : At T m c below) (hx : p.tables.exec = Jvm.exec) (hby : c.code = bs) {x y : Int64} (z : Int32) (hd : decode bs pc = .ok (.lcmp, 1)) (hz : lcmpW x y = z) (hq : pc + 1 = q) (hr : G (T.setTop (mkF m q Ls (.int z :: S)))) : G (T.setTop (mkF m pc Ls (.long y :: .long x :: S))) := by subst hq; subst hz; exact K _ _ (fun t k => Jvm.Free.XS.lcmp h hx rfl (hb hby hd) rfl k) hr
theorem m_iinc (K : Cl p e below G) (h : At T m c below) (hx : p.tables.exec = Jvm.exec) (hby : c.code = bs) {k : Nat} {i : Int} {x : Int32} (l' : Array Slot) (hd : decode bs pc = .ok (.iinc k i, 3)) (hl : Ls[k]? = some (.val (.int x))) (hl' : storeLocals Ls k (.int (x + Int32.ofInt i)) = some l') (hq : pc + 3 = q) (hr : G (T.setTop (mkF m q l' S))) : G (T.setTop (mkF m pc Ls S)) := by subst hq; exact K _ _ (fun t k => Jvm.Free.XS.iinc h hx rfl (hb hby hd) hl hl' k) hr
theorem m_dup (K : Cl p e below G) (h : At T m c below) (hx : p.tables.exec = Jvm.exec) (hby : c.code = bs) {v : Value} (hd : decode bs pc = .ok (.dup, 1)) (hv : v.category = 1) (hq : pc + 1 = q) (hr : G (T.setTop (mkF m q Ls (v :: v :: S)))) : G (T.setTop (mkF m pc Ls (v :: S))) := by subst hq; exact K _ _ (fun t k => Jvm.Free.XS.dup h hx rfl (hb hby hd) rfl hv k) hr
theorem m_dupX1 (K : Cl p e below G) (h : At T m c below) (hx : p.tables.exec = Jvm.exec) (hby : c.code = bs) {v w : Value} (hd : decode bs pc = .ok (.dup_x1, 1)) (hv : v.category = 1) (hw : w.category = 1) (hq : pc + 1 = q) (hr : G (T.setTop (mkF m q Ls (v :: w :: v :: S)))) : G (T.setTop (mkF m pc Ls (v :: w :: S))) := by subst hq; exact K _ _ (fun t k => Jvm.Free.XS.dupX1 h hx rfl (hb hby hd) rfl hv hw k) hr
theorem m_dup2 (K : Cl p e below G) (h : At T m c below) (hx : p.tables.exec = Jvm.exec) (hby : c.code = bs) {v w : Value} (hd : decode bs pc = .ok (.dup2, 1)) (hv : v.category = 1) (hw : w.category = 1) (hq : pc + 1 = q) (hr : G (T.setTop (mkF m q Ls (v :: w :: v :: w :: S)))) : G (T.setTop (mkF m pc Ls (v :: w :: S))) := by subst hq; refine K _ _ (fun t k => ?_) hr; cases v <;> cases w <;> simp [Value.category] at hv hw <;> (jvm_step h [h.top, hx, hb hby hd, Value.category]; exact k)
theorem m_dup2L (K : Cl p e below G) (h : At T m c below) (hx : p.tables.exec = Jvm.exec) (hby : c.code = bs) {v : Int64} (hd : decode bs pc = .ok (.dup2, 1)) (hq : pc + 1 = q) (hr : G (T.setTop (mkF m q Ls (.long v :: .long v :: S)))) : G (T.setTop (mkF m pc Ls (.long v :: S))) := by subst hq; refine K _ _ (fun t k => ?_) hr; jvm_step h [h.top, hx, hb hby hd, Value.category]; exact k
theorem m_pop (K : Cl p e below G) (h : At T m c below) (hx : p.tables.exec = Jvm.exec) (hby : c.code = bs) {v : Value} (hd : decode bs pc = .ok (.pop, 1)) (hv : v.category = 1) (hq : pc + 1 = q) (hr : G (T.setTop (mkF m q Ls S))) : G (T.setTop (mkF m pc Ls (v :: S))) := by subst hq; exact K _ _ (fun t k => Jvm.Free.XS.pop h hx rfl (hb hby hd) rfl hv k) hr
theorem m_goto (K : Cl p e below G) (h : At T m c below) (hx : p.tables.exec = Jvm.exec) (hby : c.code = bs)  {o : Int} (hd : decode bs pc = .ok (.goto o, 3)) (ho : 0 ≤ (pc : Int) + o) (hq : ((pc : Int) + o).toNat = q) (hr : G (T.setTop (mkF m q Ls S))) : G (T.setTop (mkF m pc Ls S)) := by exact K _ _ (fun t k => Jvm.Free.XS.goto h hx rfl rfl (hb hby hd) ho hq k) hr
theorem m_ifY (K : Cl p e below G) (h : At T m c below) (hx : p.tables.exec = Jvm.exec) (hby : c.code = bs) {cd : ClassFile.Cond} {x : Int32} {o : Int} (hd : decode bs pc = .ok (.ifCond cd o, 3)) (hc : ifCond.holds cd x = true) (ho : 0 ≤ (pc : Int) + o) (hq : ((pc : Int) + o).toNat = q) (hr : G (T.setTop (mkF m q Ls S))) : G (T.setTop (mkF m pc Ls (.int x :: S))) := by exact K _ _ (fun t k => Jvm.Free.XS.ifYes h hx rfl rfl (hb hby hd) rfl hc ho hq k) hr
theorem m_icmpY (K : Cl p e below G) (h : At T m c below) (hx : p.tables.exec = Jvm.exec) (hby : c.code = bs) {cd : ClassFile.Cond} {x y : Int32} {o : Int} (hd : decode bs pc = .ok (.if_icmp cd o, 3)) (hc : if_icmp.holds cd x y = true) (ho : 0 ≤ (pc : Int) + o) (hq : ((pc : Int) + o).toNat = q) (hr : G (T.setTop (mkF m q Ls S))) : G (T.setTop (mkF m pc Ls (.int y :: .int x :: S))) := by exact K _ _ (fun t k => Jvm.Free.XS.icmpYes h hx rfl rfl (hb hby hd) rfl hc ho hq k) hr
theorem m_nullY (K : Cl p e below G) (h : At T m c below) (hx : p.tables.exec = Jvm.exec) (hby : c.code = bs)  {o : Int} (hd : decode bs pc = .ok (.ifnull o, 3)) (ho : 0 ≤ (pc : Int) + o) (hq : ((pc : Int) + o).toNat = q) (hr : G (T.setTop (mkF m q Ls S))) : G (T.setTop (mkF m pc Ls (.null :: S))) := by exact K _ _ (fun t k => Jvm.Free.XS.ifnullYes h hx rfl rfl (hb hby hd) rfl ho hq k) hr
theorem m_nnY (K : Cl p e below G) (h : At T m c below) (hx : p.tables.exec = Jvm.exec) (hby : c.code = bs) {a : Addr} {o : Int} (hd : decode bs pc = .ok (.ifnonnull o, 3)) (ho : 0 ≤ (pc : Int) + o) (hq : ((pc : Int) + o).toNat = q) (hr : G (T.setTop (mkF m q Ls S))) : G (T.setTop (mkF m pc Ls (.ref a :: S))) := by exact K _ _ (fun t k => Jvm.Free.XS.ifnonnullYes h hx rfl rfl (hb hby hd) rfl ho hq k) hr
theorem m_ifN (K : Cl p e below G) (h : At T m c below) (hx : p.tables.exec = Jvm.exec) (hby : c.code = bs) {cd : ClassFile.Cond} {o : Int} {x : Int32} (hd : decode bs pc = .ok (.ifCond cd o, 3)) (hc : ifCond.holds cd x = false) (hq : pc + 3 = q) (hr : G (T.setTop (mkF m q Ls S))) : G (T.setTop (mkF m pc Ls (.int x :: S))) := by subst hq; exact K _ _ (fun t k => Jvm.Free.XS.ifNo h hx rfl (hb hby hd) rfl hc k) hr
theorem m_icmpN (K : Cl p e below G) (h : At T m c below) (hx : p.tables.exec = Jvm.exec) (hby : c.code = bs) {cd : ClassFile.Cond} {o : Int} {x y : Int32} (hd : decode bs pc = .ok (.if_icmp cd o, 3)) (hc : if_icmp.holds cd x y = false) (hq : pc + 3 = q) (hr : G (T.setTop (mkF m q Ls S))) : G (T.setTop (mkF m pc Ls (.int y :: .int x :: S))) := by subst hq; exact K _ _ (fun t k => Jvm.Free.XS.icmpNo h hx rfl (hb hby hd) rfl hc k) hr
theorem m_nullN (K : Cl p e below G) (h : At T m c below) (hx : p.tables.exec = Jvm.exec) (hby : c.code = bs) {o : Int} {a : Addr} (hd : decode bs pc = .ok (.ifnull o, 3)) (hq : pc + 3 = q) (hr : G (T.setTop (mkF m q Ls S))) : G (T.setTop (mkF m pc Ls (.ref a :: S))) := by subst hq; exact K _ _ (fun t k => Jvm.Free.XS.ifnullNo h hx rfl (hb hby hd) rfl k) hr
theorem m_nnN (K : Cl p e below G) (h : At T m c below) (hx : p.tables.exec = Jvm.exec) (hby : c.code = bs) {o : Int} (hd : decode bs pc = .ok (.ifnonnull o, 3)) (hq : pc + 3 = q) (hr : G (T.setTop (mkF m q Ls S))) : G (T.setTop (mkF m pc Ls (.null :: S))) := by subst hq; exact K _ _ (fun t k => Jvm.Free.XS.ifnonnullNo h hx rfl (hb hby hd) rfl k) hr
theorem m_acmp (K : Cl p e below G) (X : Stand p l e R s m args below meth c T locs cells slots) (hx : p.tables.exec = Jvm.exec) (hby : c.code = bs) {cd : ACond} {x y : Value} {o : Int} (same : Bool) (hd : decode bs pc = .ok (.if_acmp cd o, 3)) (h1 : x.isRef = true) (h2 : y.isRef = true) (hs : decide (x = y) = same) (ho : 0 ≤ (pc : Int) + o) (hq : q = if acV cd same = true then ((pc : Int) + o).toNat else pc + 3) (hr : G (T.setTop (mkF m q Ls S))) : G (T.setTop (mkF m pc Ls (y :: x :: S))) := K _ _ (fun t k => Jvm.RoadKit.acmp (g := mkF m pc Ls (y :: x :: S)) X hx rfl h1 h2 rfl (hb hby hd) rfl hs ho hq k) hr
theorem m_ldc (K : Cl p e below G) (X : Stand p l e R s m args below meth c T locs cells slots) (hx : p.tables.exec = Jvm.exec) (hby : c.code = bs) (hZ : Z.Warmed39 s.vm) {own : String} {i : Nat} {v : Int32} (hown : s.vm.findClass own = some m.cls) (w : (Jvm.Cond.constant own i v).before a0 Z = true) (hd : decode bs pc = .ok (.ldc i, 2)) (hq : pc + 2 = q) (hr : G (T.setTop (mkF m q Ls (.int v :: S)))) : G (T.setTop (mkF m pc Ls S)) := by subst hq; exact K _ _ (fun t k => X.ldcInt hx hown (mvT hZ w) (g := mkF m pc Ls S) rfl (hb hby hd) _ k) hr
theorem m_ldcw (K : Cl p e below G) (X : Stand p l e R s m args below meth c T locs cells slots) (hx : p.tables.exec = Jvm.exec) (hby : c.code = bs) (hZ : Z.Warmed39 s.vm) {own : String} {i : Nat} {v : Int32} (hown : s.vm.findClass own = some m.cls) (w : (Jvm.Cond.constant own i v).before a0 Z = true) (hd : decode bs pc = .ok (.ldc_w i, 3)) (hq : pc + 3 = q) (hr : G (T.setTop (mkF m q Ls (.int v :: S)))) : G (T.setTop (mkF m pc Ls S)) := by subst hq; exact K _ _ (fun t k => X.ldcwInt hx hown (mvT hZ w) (g := mkF m pc Ls S) rfl (hb hby hd) _ k) hr
theorem m_ldc2 (K : Cl p e below G) (X : Stand p l e R s m args below meth c T locs cells slots) (hx : p.tables.exec = Jvm.exec) (hby : c.code = bs) (hZ : Z.Warmed39 s.vm) {own : String} {i : Nat} {v : Int64} (hown : s.vm.findClass own = some m.cls) (w : (Jvm.Cond.constantLong own i v).before a0 Z = true) (hd : decode bs pc = .ok (.ldc2_w i, 3)) (hq : pc + 3 = q) (hr : G (T.setTop (mkF m q Ls (.long v :: S)))) : G (T.setTop (mkF m pc Ls S)) := by subst hq; exact K _ _ (fun t k => X.ldc2Long hx hown (mvT hZ w) (g := mkF m pc Ls S) rfl (hb hby hd) _ k) hr
theorem k_getF (K : Cl p e below G) (X : Stand p l e R s m args below meth c T locs cells slots) (hx : p.tables.exec = Jvm.exec) (hby : c.code = bs) (hZ : Z.Warmed39 s.vm) {own R0 O n d host : String} {i : Nat} (hown : s.vm.findClass own = some m.cls) (w : (Jvm.Cond.fieldLink own i R0 n d).before a0 Z = true ∨ (Jvm.Cond.fieldLinkNest own i R0 n d host).before a0 Z = true) (via : Via Z R0 O n d) (eT : T.heap = h) {a : Addr} {v : Value} (F : Fld Z h a O n d v) (hd : decode bs pc = .ok (.getfield i, 3)) (hq : pc + 3 = q) (k : ∀ T', Stand p l e R s m args below meth c T' locs cells slots → T'.heap = h → G (T'.setTop (mkF m q Ls (v :: S)))) : G (T.setTop (mkF m pc Ls (.ref a :: S))) := by
  subst hq
  obtain ⟨T', X', e', st⟩ := getF X hx hZ hown w via eT F (g := mkF m pc Ls (.ref a :: S)) rfl rfl (hb hby hd)
  exact K _ _ st (k T' X' e')
theorem k_getS (K : Cl p e below G) (X : Stand p l e R s m args below meth c T locs cells slots) (hx : p.tables.exec = Jvm.exec) (hby : c.code = bs) (hZ : Z.Warmed39 s.vm) {own R0 O n d host : String} {i : Nat} (hown : s.vm.findClass own = some m.cls) (w : (Jvm.Cond.fieldLink own i R0 n d).before a0 Z = true ∨ (Jvm.Cond.fieldLinkNest own i R0 n d host).before a0 Z = true) (via : Via Z R0 O n d) (eT : T.heap = h) {v : Value} (F : Sta Z h O n d v) (hd : decode bs pc = .ok (.getstatic i, 3)) (hq : pc + 3 = q) (k : ∀ T', Stand p l e R s m args below meth c T' locs cells slots → T'.heap = h → G (T'.setTop (mkF m q Ls (v :: S)))) : G (T.setTop (mkF m pc Ls S)) := by
  subst hq
  obtain ⟨T', X', e', st⟩ := getS2 X hx hZ hown w via eT F (g := mkF m pc Ls S) rfl (hb hby hd)
  exact K _ _ st (k T' X' e')
theorem k_putF (K : Cl p e below G) (X : Stand p l e R s m args below meth c T locs cells slots) (hx : p.tables.exec = Jvm.exec) (hby : c.code = bs) (hZ : Z.Warmed39 s.vm) {own R0 O n d host C : String} {i kk : Nat} {ty : FieldType} (hown : s.vm.findClass own = some m.cls) (w : (Jvm.Cond.fieldLink own i R0 n d).before a0 Z = true ∨ (Jvm.Cond.fieldLinkNest own i R0 n d host).before a0 Z = true) (via : Via Z R0 O n d) (eT : T.heap = h) {a : Addr} {v old : Value} (F : Fld Z h a O n d old) (E : Exa Z h a C) (L : (Jvm.Cond.lays C O n d).before a0 Z = true ∨ ((Jvm.Cond.laysFinal C O n d).before a0 Z = true ∧ own = O ∧ meth.name = "<init>")) (wi : (Jvm.Cond.instantiable C kk).before a0 Z = true) (hty : parseFieldDescriptor d = some ty) (hn : narrow ty v = v) (hf : fits ty v = true) (hd : decode bs pc = .ok (.putfield i, 3)) (hq : pc + 3 = q)
    (k : ∀ T' h', Stand p l e R s m args below meth c T' (locs ++ [⟨a, Jvm.RoadKit.slotOf Z O n d⟩]) cells slots → T'.heap = h' → Wr h h' a (Jvm.RoadKit.slotOf Z O n d) v → G (T'.setTop (mkF m q Ls S))) : G (T.setTop (mkF m pc Ls (v :: .ref a :: S))) := by
  subst hq
  obtain ⟨T', h', X', e', W', st⟩ := putF X hx hZ hown w via eT F E L wi hty hn hf (g := mkF m pc Ls (v :: .ref a :: S)) rfl rfl (hb hby hd)
  exact K _ _ st (k T' h' X' e' W')
theorem k_newO (K : Cl p e below G) (X : Stand p l e R s m args below meth c T locs cells slots) (hx : p.tables.exec = Jvm.exec) (hby : c.code = bs) (hZ : Z.Warmed39 s.vm) {own C : String} {i n : Nat} (hown : s.vm.findClass own = some m.cls) (w : (Jvm.Cond.classLink own i C).before a0 Z = true) (wi : (Jvm.Cond.instantiable C n).before a0 Z = true) (wz : (Jvm.Cond.initialized C).before a0 Z = true) (eT : T.heap = h) (hd : decode bs pc = .ok (.new i, 3)) (hq : pc + 3 = q) (hc : cells + 1 ≤ R.cells) (hl : slots + n ≤ R.slots)
    (k : ∀ T' h' b, Stand p l e R s m args below meth c T' locs (cells + 1) (slots + n) → T'.heap = h' → Ext h h' → b = h.size → Exa Z h' b C → (∀ {O nm d : String} {ty : FieldType}, Laid Z a0 C O nm d → parseFieldDescriptor d = some ty → Fld Z h' b O nm d (defaultValue ty)) → G (T'.setTop (mkF m q Ls (.ref b :: S)))) : G (T.setTop (mkF m pc Ls S)) := by
  subst hq
  obtain ⟨T', h', X', e', E', A', D', -, st⟩ := newO X hx hZ hown w wi wz eT (g := mkF m pc Ls S) rfl (hb hby hd) hc hl
  exact K _ _ st (k T' h' _ X' e' E' rfl A' D')
theorem k_initO (K : Cl p e below G) (X : Stand p l e R s m args below meth c T locs cells slots) (hx : p.tables.exec = Jvm.exec) (hby : c.code = bs) (hZ : Z.Warmed39 s.vm) {own : String} {i : Nat} (hown : s.vm.findClass own = some m.cls) (w1 : (Jvm.Cond.methodLink own i ⟨"java/lang/Object", "<init>", "()V"⟩).before a0 Z = true) (w2 : (Jvm.Cond.instanceMethod ⟨"java/lang/Object", "<init>", "()V"⟩).before a0 Z = true) (w3 : (Jvm.Cond.code ⟨"java/lang/Object", "<init>", "()V"⟩ object_method_1_code 1 none).before a0 Z = true) (eT : T.heap = h) {a : Addr} (hd : decode bs pc = .ok (.invokespecial i, 3)) (hsz : Ls.size = c.maxLocals) (hq : pc + 3 = q) (hf : 1 ≤ R.frames) (hlo : (S.map fun v => v.category).sum + 12 ≤ R.locals)
    (k : ∀ T', Stand p l e R s m args below meth c T' locs cells slots → T'.heap = h → G (T'.setTop (mkF m q Ls S))) : G (T.setTop (mkF m pc Ls (.ref a :: S))) := by
  subst hq
  obtain ⟨T', X', e', st⟩ := initO X hx hZ hown w1 w2 w3 eT (g := mkF m pc Ls (.ref a :: S)) rfl hsz rfl (hb hby hd) hf (W := (S.map fun v => v.category).sum) (by show 2 * 0 + _ ≤ _; exact Nat.le_of_eq (Nat.zero_add _)) hlo
  exact K _ _ st (k T' X' e')
theorem k_cast (K : Cl p e below G) (X : Stand p l e R s m args below meth c T locs cells slots) (hx : p.tables.exec = Jvm.exec) (hby : c.code = bs) (hZ : Z.Warmed39 s.vm) {own C : String} {i : Nat} (hown : s.vm.findClass own = some m.cls) (w : (Jvm.Cond.classLink own i C).before a0 Z = true) (eT : T.heap = h) {a : Addr} (I : Ins Z h a C true) (hd : decode bs pc = .ok (.checkcast i, 3)) (hq : pc + 3 = q) (k : ∀ T', Stand p l e R s m args below meth c T' locs cells slots → T'.heap = h → G (T'.setTop (mkF m q Ls (.ref a :: S)))) : G (T.setTop (mkF m pc Ls (.ref a :: S))) := by
  subst hq
  obtain ⟨T', X', e', st⟩ := castY X hx hZ hown w eT I (g := mkF m pc Ls (.ref a :: S)) rfl rfl (hb hby hd)
  exact K _ _ st (k T' X' e')
def Con (l : Launch) (Z : State) (y : MethodName) (bytes : ByteArray) (maxL : Nat) (ret : Option FieldType) (rm : Room) (ws : List Jvm.Cond) (as' : Array Value) (h : Heap) (Q : PQ) : Prop :=
  MetFree l y (head1 (Jvm.Cond.code y bytes maxL ret :: ws) rm) (fun a U => a = as' ∧ Z.Warmed39 U.vm ∧ U.heap = h) (fun _ _ _ _ _ => True) (fun _ U o U' => ∃ v L, o = .returned v ∧ Q v U'.heap L ∧ FrameEnd U o U' L rm.cells rm.slots)
theorem Con.of {y : MethodName} {bytes : ByteArray} {maxL : Nat} {ret : Option FieldType} {rm : Room} {ws : List Jvm.Cond} {as' : Array Value} {Q : PQ} (hpl : plainFor y = true) (Ls : Array Slot) (hef : ∀ m, entryFrame m as' maxL = mkF m 0 Ls [])
    (body : ∀ p e s m below meth c s₁, Cl p e below (Go p e below s rm.cells rm.slots Q) → p.tables.exec = Jvm.exec → c.code = bytes → c.maxLocals = maxL → s.vm.findClass y.cls = some m.cls → meth.name = y.name → meth.sig.returnType = ret → meth.locks = false → Z.Warmed39 s.vm → Stand p l e rm s m as' below meth c s₁ [] 0 0 → s₁.heap = h →
      Go p e below s rm.cells rm.slots Q (s₁.setTop (mkF m 0 Ls []))) : Con l Z y bytes maxL ret rm ws as' h Q := by
  refine MetFree.of_bodySF hpl hisR ?_
  intro p e s m args below meth c s₁ Bd hml0 hP hK
  obtain ⟨rfl, hZ, hh⟩ := hP
  have r := body p e s m below meth c s₁ Go.cl Bd.exec Bd.bytes hml0 (findClass_of_methodNamed Bd.named) (name_of_methodNamed Bd.named Bd.method).1 Bd.returns Bd.notSynchronized hZ (Stand.of_body Bd) (by rw [← hh, Bd.state]; rfl)
  rw [← hef m] at r
  exact r
theorem Con.back {y : MethodName} {bytes : ByteArray} {maxL : Nat} {ret : Option FieldType} {rm : Room} {as' : Array Value} {Q : PQ} {len W : Nat} (K : Con l Z y bytes maxL ret rm [] as' h Q)
    (hZ : Z.Warmed39 s.vm) (wc : (Jvm.Cond.code y bytes maxL ret).before a0 Z = true) (wz : (Jvm.Cond.initialized y.cls).before a0 Z = true) (hf : rm.frames + 1 ≤ R.frames) (hl : W + (maxL + 11) + rm.locals ≤ R.locals) :
    Back l R p e below s args y len W (fun A a => a = as' ∧ A.U.heap = h ∧ A.cells + rm.cells ≤ R.cells ∧ A.slots + rm.slots ≤ R.slots)
      (fun A _ v B => ∃ L, Q v B.U.heap L ∧ B.locs = A.locs ++ L ∧ B.cells = A.cells + rm.cells ∧ B.slots = A.slots + rm.slots) := backOf K hZ wc wz hf hl
theorem k_callS (K : Cl p e below G) (X : Stand p l e R s m args below meth c T locs cells slots) (hx : p.tables.exec = Jvm.exec) (hby : c.code = bs) (hZ : Z.Warmed39 s.vm) {own : String} {i : Nat} {y : MethodName} {bytes : ByteArray} {maxL : Nat} {ret : Option FieldType} {rm : Room} {Q : PQ} {as' : Array Value} {ps : List FieldType} {r : Option FieldType} (argsL rest : List Value) (hown : s.vm.findClass own = some m.cls) (w1 : (Jvm.Cond.methodLink own i y).before a0 Z = true) (w2 : (Jvm.Cond.static y).before a0 Z = true) (w3 : (Jvm.Cond.initialized y.cls).before a0 Z = true) (w4 : (Jvm.Cond.code y bytes maxL ret).before a0 Z = true)
    (C : Con l Z y bytes maxL ret rm [] as' h Q) (eT : T.heap = h) (has : argsL.toArray = as') (hs : S = argsL.reverse ++ rest) (hps : parseMethodDescriptor y.desc = some ⟨ps, r⟩) (hl : argsL.length = ps.length) (hd : decode bs pc = .ok (.invokestatic i, 3)) (hsz : Ls.size = c.maxLocals) (hq : pc + 3 = q) (hy : y.cls ≠ "java/lang/invoke/MethodHandle" ∧ y.cls ≠ "java/lang/invoke/VarHandle") (hf : rm.frames + 1 ≤ R.frames) (hlo : (rest.map fun v => v.category).sum + (maxL + 11) + rm.locals ≤ R.locals) (hc : cells + rm.cells ≤ R.cells) (hn : slots + rm.slots ≤ R.slots)
    (k : ∀ v T' L, Stand p l e R s m args below meth c T' (locs ++ L) (cells + rm.cells) (slots + rm.slots) → Q v T'.heap L → G (T'.setTop (mkF m q Ls (v.toList ++ rest)))) : G (T.setTop (mkF m pc Ls S)) := by
  subst has hs hq
  obtain ⟨v, _, ⟨T', L', k', n'⟩, -, X', ⟨Lc, hQ, l1, y1, z1⟩, st⟩ := Jvm.LawKit.callS X hx (y := y) hown (mvT hZ w1) (mvT hZ w2) (mvT hZ w3) (mvT hZ w4) hy (C.back (W := (rest.map fun v => v.category).sum) hZ w4 w3 hf hlo) (g := mkF m pc Ls (argsL.reverse ++ rest)) rfl hsz (argsL := argsL) (rest := rest) (lenOf hps hl) rfl (by show 2 * 0 + _ ≤ _; exact Nat.le_of_eq (Nat.zero_add _)) (hb hby hd) (fun _ _ => ⟨rfl, eT, hc, hn⟩)
  dsimp only at X' l1 y1 z1 st hQ
  subst l1 y1 z1
  exact K _ _ st (k v T' Lc X' hQ)
theorem k_callP (K : Cl p e below G) (X : Stand p l e R s m args below meth c T locs cells slots) (hx : p.tables.exec = Jvm.exec) (hby : c.code = bs) (hZ : Z.Warmed39 s.vm) {own : String} {i : Nat} {y : MethodName} {bytes : ByteArray} {maxL : Nat} {rm : Room} {Q : PQ} {as' : Array Value} {ps : List FieldType} {r : Option FieldType} (a : Addr) (argsL rest : List Value) (hown : s.vm.findClass own = some m.cls) (w1 : (Jvm.Cond.methodLink own i y).before a0 Z = true) (w2 : (Jvm.Cond.instanceMethod y).before a0 Z = true) (w3 : (Jvm.Cond.initialized y.cls).before a0 Z = true) (w4 : (Jvm.Cond.code y bytes maxL none).before a0 Z = true) (hy1 : y.name = "<init>")
    (C : Con l Z y bytes maxL none rm [] as' h Q) (eT : T.heap = h) (has : (.ref a :: argsL).toArray = as') (hs : S = argsL.reverse ++ .ref a :: rest) (hps : parseMethodDescriptor y.desc = some ⟨ps, r⟩) (hl : argsL.length = ps.length) (hd : decode bs pc = .ok (.invokespecial i, 3)) (hsz : Ls.size = c.maxLocals) (hq : pc + 3 = q) (hy : y.cls ≠ "java/lang/invoke/MethodHandle" ∧ y.cls ≠ "java/lang/invoke/VarHandle") (hf : rm.frames + 1 ≤ R.frames) (hlo : (rest.map fun v => v.category).sum + (maxL + 11) + rm.locals ≤ R.locals) (hc : cells + rm.cells ≤ R.cells) (hn : slots + rm.slots ≤ R.slots)
    (k : ∀ v T' L, Stand p l e R s m args below meth c T' (locs ++ L) (cells + rm.cells) (slots + rm.slots) → Q v T'.heap L → G (T'.setTop (mkF m q Ls (v.toList ++ rest)))) : G (T.setTop (mkF m pc Ls S)) := by
  subst has hs hq
  obtain ⟨v, _, ⟨T', L', k', n'⟩, -, X', ⟨Lc, hQ, l1, y1, z1⟩, st⟩ := X.specialBack hx (y := y) hy1 hown (mvT hZ w1) (mvT hZ w2) (mvT hZ w4) hy (C.back (W := (rest.map fun v => v.category).sum) hZ w4 w3 hf hlo) (g := mkF m pc Ls (argsL.reverse ++ .ref a :: rest)) rfl hsz (Steps.refl _) (a := a) (argsL := argsL) (rest := rest) (lenOf hps hl) rfl (by show 2 * 0 + _ ≤ _; exact Nat.le_of_eq (Nat.zero_add _)) (hb hby hd) (fun _ _ => ⟨rfl, eT, hc, hn⟩)
  dsimp only at X' l1 y1 z1 st hQ
  subst l1 y1 z1
  exact K _ _ (fun t k => st.trans k) (k v T' Lc X' hQ)
theorem k_callV (K : Cl p e below G) (X : Stand p l e R s m args below meth c T locs cells slots) (hx : p.tables.exec = Jvm.exec) (hby : c.code = bs) (hZ : Z.Warmed39 s.vm) {own : String} {i : Nat} {y : MethodName} {bytes : ByteArray} {maxL : Nat} {ret : Option FieldType} {rm : Room} {Q : PQ} {as' : Array Value} {ps : List FieldType} {r : Option FieldType} {z : MethodName} {C0 : String} (a : Addr) (argsL rest : List Value) (hown : s.vm.findClass own = some m.cls) (w1 : (Jvm.Cond.methodLink own i y).before a0 Z = true) (w2 : (Jvm.Cond.declares y).before a0 Z = true) (hnf : NotFace s y) (w5 : (Jvm.Cond.selects C0 y z).before a0 Z = true) (w6 : (Jvm.Cond.instanceMethod z).before a0 Z = true) (w3 : (Jvm.Cond.initialized z.cls).before a0 Z = true) (w4 : (Jvm.Cond.code z bytes maxL ret).before a0 Z = true)
    (C : Con l Z z bytes maxL ret rm [] as' h Q) (eT : T.heap = h) (E : Exa Z h a C0) (has : (.ref a :: argsL).toArray = as') (hs : S = argsL.reverse ++ .ref a :: rest) (hps : parseMethodDescriptor y.desc = some ⟨ps, r⟩) (hl : argsL.length = ps.length) (hd : decode bs pc = .ok (.invokevirtual i, 3)) (hsz : Ls.size = c.maxLocals) (hq : pc + 3 = q) (hy : y.cls ≠ "java/lang/invoke/MethodHandle" ∧ y.cls ≠ "java/lang/invoke/VarHandle") (hf : rm.frames + 1 ≤ R.frames) (hlo : (rest.map fun v => v.category).sum + (maxL + 11) + rm.locals ≤ R.locals) (hc : cells + rm.cells ≤ R.cells) (hn : slots + rm.slots ≤ R.slots)
    (k : ∀ v T' L, Stand p l e R s m args below meth c T' (locs ++ L) (cells + rm.cells) (slots + rm.slots) → Q v T'.heap L → G (T'.setTop (mkF m q Ls (v.toList ++ rest)))) : G (T.setTop (mkF m pc Ls S)) := by
  subst has hs hq
  obtain ⟨cq, kq, qa, qb, qc⟩ := isOf hZ eT E
  obtain ⟨v, _, ⟨T', L', k', n'⟩, -, X', ⟨Lc, hQ, l1, y1, z1⟩, st⟩ := X.virtualBack hx (y := y) (z := z) hown (mvT hZ w1) (mvT hZ w2) hnf (mvT hZ w5) (mvT hZ w6) hy (C.back (W := (rest.map fun v => v.category).sum) hZ w4 w3 hf hlo) qa qc (g := mkF m pc Ls (argsL.reverse ++ .ref a :: rest)) rfl hsz (Steps.refl _) (argsL := argsL) (rest := rest) (lenOf hps hl) rfl (by show 2 * 0 + _ ≤ _; exact Nat.le_of_eq (Nat.zero_add _)) (hb hby hd) (fun _ _ => ⟨rfl, eT, hc, hn⟩)
  dsimp only at X' l1 y1 z1 st hQ
  subst l1 y1 z1
  exact K _ _ (fun t k => st.trans k) (k v T' Lc X' hQ)
theorem k_callI (K : Cl p e below G) (X : Stand p l e R s m args below meth c T locs cells slots) (hx : p.tables.exec = Jvm.exec) (hby : c.code = bs) (hZ : Z.Warmed39 s.vm) {own : String} {i : Nat} {y : MethodName} {bytes : ByteArray} {maxL : Nat} {ret : Option FieldType} {rm : Room} {Q : PQ} {as' : Array Value} {ps : List FieldType} {r : Option FieldType} {z : MethodName} {C0 : String} {cnt : Nat} (a : Addr) (argsL rest : List Value) (hown : s.vm.findClass own = some m.cls) (w1 : (Jvm.Cond.methodLink own i y).before a0 Z = true) (w2 : (Jvm.Cond.declares y).before a0 Z = true) (w7 : (Jvm.Cond.interfaceMethod y.cls y.cls y.name y.desc).before args s = true) (w5 : (Jvm.Cond.selects C0 y z).before a0 Z = true) (w6 : (Jvm.Cond.instanceMethod z).before a0 Z = true) (w8 : (Jvm.Cond.publicMethod z).before a0 Z = true) (w9 : (Jvm.Cond.unhidden C0 y.name y.desc).before a0 Z = true) (wa : (Jvm.Cond.castable C0 y.cls).before a0 Z = true) (w3 : (Jvm.Cond.initialized z.cls).before a0 Z = true) (w4 : (Jvm.Cond.code z bytes maxL ret).before a0 Z = true)
    (C : Con l Z z bytes maxL ret rm [] as' h Q) (eT : T.heap = h) (E : Exa Z h a C0) (has : (.ref a :: argsL).toArray = as') (hs : S = argsL.reverse ++ .ref a :: rest) (hps : parseMethodDescriptor y.desc = some ⟨ps, r⟩) (hl : argsL.length = ps.length) (hd : decode bs pc = .ok (.invokeinterface i cnt, 5)) (hsz : Ls.size = c.maxLocals) (hq : pc + 5 = q) (hy : y.cls ≠ "java/lang/invoke/MethodHandle" ∧ y.cls ≠ "java/lang/invoke/VarHandle") (hf : rm.frames + 1 ≤ R.frames) (hlo : (rest.map fun v => v.category).sum + (maxL + 11) + rm.locals ≤ R.locals) (hc : cells + rm.cells ≤ R.cells) (hn : slots + rm.slots ≤ R.slots)
    (k : ∀ v T' L, Stand p l e R s m args below meth c T' (locs ++ L) (cells + rm.cells) (slots + rm.slots) → Q v T'.heap L → G (T'.setTop (mkF m q Ls (v.toList ++ rest)))) : G (T.setTop (mkF m pc Ls S)) := by
  subst has hs hq
  obtain ⟨cq, kq, qa, qb, qc⟩ := isOf hZ eT E
  obtain ⟨v, _, ⟨T', L', k', n'⟩, -, X', ⟨Lc, hQ, l1, y1, z1⟩, st⟩ := X.interfaceBack hx (xi := y) (y := z) hown (mvT hZ w1) (mvT hZ w2) w7 (mvT hZ w5) (mvT hZ w6) (mvT hZ w8) (mvT hZ w9) (mvT hZ wa) hy (C.back (W := (rest.map fun v => v.category).sum) hZ w4 w3 hf hlo) qa qb qc (g := mkF m pc Ls (argsL.reverse ++ .ref a :: rest)) rfl hsz (Steps.refl _) (argsL := argsL) (rest := rest) (lenOf hps hl) rfl (by show 2 * 0 + _ ≤ _; exact Nat.le_of_eq (Nat.zero_add _)) (hb hby hd) (fun _ _ => ⟨rfl, eT, hc, hn⟩)
  dsimp only at X' l1 y1 z1 st hQ
  subst l1 y1 z1
  exact K _ _ (fun t k => st.trans k) (k v T' Lc X' hQ)
end OwnBase
section OwnArr
variable {p : Program} {l : Launch} {e : Env} {R : Room} {s : State} {m : MethodId} {args : Array Value} {below : List Frame} {meth : Method} {c : Code} {T : State} {locs : List Loc} {cells slots : Nat} {Z : State} {a0 : Array Value} {h h' : Heap} {a b : Addr} {ty : FieldType} {vs : List Value} {v : Value} {sl : Nat} {ws : List Addr} {bs : ByteArray} {pc q : Nat} {Ls : Array Slot} {S : List Value} {G : State → Prop}
def Av (Z : State) (h : Heap) (a : Addr) (ty : FieldType) (vs : List Value) : Prop := ∃ cl : Cell, Arr Z h a cl ty ∧ cl.slots = vs.toArray
theorem Av.lt (F : Av Z h a ty vs) : a < h.size := by obtain ⟨_, A, -⟩ := F; exact A.lt
theorem Av.ext (F : Av Z h a ty vs) (E : Ext h h') : Av Z h' a ty vs := by obtain ⟨c, A, r⟩ := F; exact ⟨c, A.ext E, r⟩
theorem Av.other (F : Av Z h b ty vs) (W : Wr h h' a sl v) (q : b ≠ a) : Av Z h' b ty vs := by obtain ⟨c, A, r⟩ := F; exact ⟨c, A.other W q, r⟩
theorem Av.keep (F : Av Z h a ty vs) (K : Keep h h' ws) (q : a ∉ ws) : Av Z h' a ty vs := by obtain ⟨c, A, r⟩ := F; exact ⟨c, ⟨K.2.1 a c A.1 q, A.2⟩, r⟩
theorem Av.new {k : ClassId} {z : Int32} {n : Nat} (A : Arr Z h a (newA k ty z) ty) (hn : z.toNatClampNeg = n) : Av Z h a ty (List.replicate n (defaultValue ty)) := ⟨_, A, by subst hn; simp [newA]⟩
theorem Av.set (F : Av Z h a ty vs) (W : Wr h h' a sl v) : Av Z h' a ty (vs.set sl v) := by
  obtain ⟨c, A, r⟩ := F
  exact ⟨_, A.same W, by simp [Cell.setSlot, r]⟩
theorem Av.ofArv {k : ClassId} {z : Int32} {d : Value} (A : Arv Z h a k ty z vs d) (hl : z.toNatClampNeg = vs.length) : Av Z h a ty vs := by
  obtain ⟨cl, A, -, S, -, H, -⟩ := A
  refine ⟨cl, A, Array.ext_getElem? fun i => ?_⟩
  by_cases q : i < vs.length
  · have := H i (by omega)
    rw [this]
    simp [q]
  · rw [Array.getElem?_eq_none (by omega), List.getElem?_toArray, List.getElem?_eq_none (by omega)]
theorem own_in {cl : Cell} {j : Int32} (r : cl.slots = vs.toArray) (h0 : ¬ j < 0) (h1 : j.toNatClampNeg < vs.length) : ¬ (j < 0 ∨ cl.slots.size ≤ j.toNatClampNeg) := by
  rintro (q | q)
  · exact h0 q
  · rw [r, List.size_toArray] at q; omega
theorem own_at {cl : Cell} {i : Nat} (r : cl.slots = vs.toArray) (hv : vs[i]? = some v) : cl.slots[i]? = some v := by rw [r]; simpa using hv
theorem own_ltl0 {i : Nat} (hv : vs[i]? = some v) : i < vs.length := (List.getElem?_eq_some_iff.mp hv).1
theorem k_ldI (K : Cl p e below G) (X : Stand p l e R s m args below meth c T locs cells slots) (hx : p.tables.exec = Jvm.exec) (hby : c.code = bs) (hZ : Z.Warmed39 s.vm) (eT : T.heap = h) (F : Av Z h a .int vs) {j : Int32} (h0 : ¬ j < 0) (hv : vs[j.toNatClampNeg]? = some v) (hd : decode bs pc = .ok (.iaload, 1)) (hq : pc + 1 = q) (hr : G (T.setTop (mkF m q Ls (v :: S)))) : G (T.setTop (mkF m pc Ls (.int j :: .ref a :: S))) := by
  subst hq
  obtain ⟨cl, A, r⟩ := F
  exact K _ _ (X.iaload hx (j := j) (v := v) (by rw [eT]; exact A.1) (State.isArrayOf_alike hZ.alike A.2.1) A.2.2 (own_in r h0 (own_ltl0 hv)) (own_at r hv) (g := mkF m pc Ls (.int j :: .ref a :: S)) rfl rfl (hb hby hd)) hr
theorem k_ldJ (K : Cl p e below G) (X : Stand p l e R s m args below meth c T locs cells slots) (hx : p.tables.exec = Jvm.exec) (hby : c.code = bs) (hZ : Z.Warmed39 s.vm) (eT : T.heap = h) (F : Av Z h a .long vs) {j : Int32} (h0 : ¬ j < 0) (hv : vs[j.toNatClampNeg]? = some v) (hd : decode bs pc = .ok (.laload, 1)) (hq : pc + 1 = q) (hr : G (T.setTop (mkF m q Ls (v :: S)))) : G (T.setTop (mkF m pc Ls (.int j :: .ref a :: S))) := by
  subst hq
  obtain ⟨cl, A, r⟩ := F
  exact K _ _ (X.laload hx (j := j) (v := v) (by rw [eT]; exact A.1) (State.isArrayOf_alike hZ.alike A.2.1) A.2.2 (own_in r h0 (own_ltl0 hv)) (own_at r hv) (g := mkF m pc Ls (.int j :: .ref a :: S)) rfl rfl (hb hby hd)) hr
theorem k_ldC (K : Cl p e below G) (X : Stand p l e R s m args below meth c T locs cells slots) (hx : p.tables.exec = Jvm.exec) (hby : c.code = bs) (hZ : Z.Warmed39 s.vm) (eT : T.heap = h) (F : Av Z h a .char vs) {j : Int32} (h0 : ¬ j < 0) (hv : vs[j.toNatClampNeg]? = some v) (hd : decode bs pc = .ok (.caload, 1)) (hq : pc + 1 = q) (hr : G (T.setTop (mkF m q Ls (v :: S)))) : G (T.setTop (mkF m pc Ls (.int j :: .ref a :: S))) := by
  subst hq
  obtain ⟨cl, A, r⟩ := F
  exact K _ _ (X.caload hx (j := j) (v := v) (by rw [eT]; exact A.1) (State.isArrayOf_alike hZ.alike A.2.1) A.2.2 (own_in r h0 (own_ltl0 hv)) (own_at r hv) (g := mkF m pc Ls (.int j :: .ref a :: S)) rfl rfl (hb hby hd)) hr
theorem k_ldB (K : Cl p e below G) (X : Stand p l e R s m args below meth c T locs cells slots) (hx : p.tables.exec = Jvm.exec) (hby : c.code = bs) (hZ : Z.Warmed39 s.vm) (eT : T.heap = h) (F : Av Z h a .byte vs) {j : Int32} (h0 : ¬ j < 0) (hv : vs[j.toNatClampNeg]? = some v) (hd : decode bs pc = .ok (.baload, 1)) (hq : pc + 1 = q) (hr : G (T.setTop (mkF m q Ls (v :: S)))) : G (T.setTop (mkF m pc Ls (.int j :: .ref a :: S))) := by
  subst hq
  obtain ⟨cl, A, r⟩ := F
  exact K _ _ (X.baloadBytes hx (j := j) (v := v) (by rw [eT]; exact A.1) (State.isArrayOf_alike hZ.alike A.2.1) A.2.2 (own_in r h0 (own_ltl0 hv)) (own_at r hv) (g := mkF m pc Ls (.int j :: .ref a :: S)) rfl rfl (hb hby hd)) hr
theorem k_ldZ (K : Cl p e below G) (X : Stand p l e R s m args below meth c T locs cells slots) (hx : p.tables.exec = Jvm.exec) (hby : c.code = bs) (hZ : Z.Warmed39 s.vm) (eT : T.heap = h) (F : Av Z h a .boolean vs) {j : Int32} (h0 : ¬ j < 0) (hv : vs[j.toNatClampNeg]? = some v) (hd : decode bs pc = .ok (.baload, 1)) (hq : pc + 1 = q) (hr : G (T.setTop (mkF m q Ls (v :: S)))) : G (T.setTop (mkF m pc Ls (.int j :: .ref a :: S))) := by
  subst hq
  obtain ⟨cl, A, r⟩ := F
  exact K _ _ (X.baloadBooleans hx (j := j) (v := v) (by rw [eT]; exact A.1) (State.isArrayOf_alike hZ.alike A.2.1) A.2.2 (own_in r h0 (own_ltl0 hv)) (own_at r hv) (g := mkF m pc Ls (.int j :: .ref a :: S)) rfl rfl (hb hby hd)) hr
theorem k_ldD (K : Cl p e below G) (X : Stand p l e R s m args below meth c T locs cells slots) (hx : p.tables.exec = Jvm.exec) (hby : c.code = bs) (hZ : Z.Warmed39 s.vm) (eT : T.heap = h) (F : Av Z h a .double vs) {j : Int32} (h0 : ¬ j < 0) (hv : vs[j.toNatClampNeg]? = some v) (hd : decode bs pc = .ok (.daload, 1)) (hq : pc + 1 = q) (hr : G (T.setTop (mkF m q Ls (v :: S)))) : G (T.setTop (mkF m pc Ls (.int j :: .ref a :: S))) := by
  subst hq
  obtain ⟨cl, A, r⟩ := F
  exact K _ _ (X.daload hx (j := j) (v := v) (by rw [eT]; exact A.1) (State.isArrayOf_alike hZ.alike A.2.1) A.2.2 (own_in r h0 (own_ltl0 hv)) (own_at r hv) (g := mkF m pc Ls (.int j :: .ref a :: S)) rfl rfl (hb hby hd)) hr
theorem k_ldR (K : Cl p e below G) (X : Stand p l e R s m args below meth c T locs cells slots) (hx : p.tables.exec = Jvm.exec) (hby : c.code = bs) (hZ : Z.Warmed39 s.vm) (eT : T.heap = h) (hty : ty.isReference = true) (F : Av Z h a ty vs) {j : Int32} (h0 : ¬ j < 0) (hv : vs[j.toNatClampNeg]? = some v) (hd : decode bs pc = .ok (.aaload, 1)) (hq : pc + 1 = q) (hr : G (T.setTop (mkF m q Ls (v :: S)))) : G (T.setTop (mkF m pc Ls (.int j :: .ref a :: S))) := by
  subst hq
  obtain ⟨cl, A, r⟩ := F
  exact K _ _ (X.aaload hx (j := j) (v := v) (by rw [eT]; exact A.1) (State.isArrayOf_alike hZ.alike A.2.1) hty A.2.2 (own_in r h0 (own_ltl0 hv)) (own_at r hv) (g := mkF m pc Ls (.int j :: .ref a :: S)) rfl rfl (hb hby hd)) hr
theorem k_len (K : Cl p e below G) (X : Stand p l e R s m args below meth c T locs cells slots) (hx : p.tables.exec = Jvm.exec) (hby : c.code = bs) (hZ : Z.Warmed39 s.vm) (z : Int32) (eT : T.heap = h) (F : Av Z h a ty vs) (hz : Int32.ofNat vs.length = z) (hd : decode bs pc = .ok (.arraylength, 1)) (hq : pc + 1 = q) (hr : G (T.setTop (mkF m q Ls (.int z :: S)))) : G (T.setTop (mkF m pc Ls (.ref a :: S))) := by
  subst hq
  obtain ⟨cl, A, r⟩ := F
  have hl : cl.slots.size.toInt32 = z := by rw [r, List.size_toArray]; exact hz
  have st := X.arraylength hx (by rw [eT]; exact A.1) (State.isArrayOf_alike hZ.alike A.2.1) (g := mkF m pc Ls (.ref a :: S)) rfl rfl (hb hby hd)
  rw [hl] at st
  exact K _ _ st hr
theorem k_stI (K : Cl p e below G) (X : Stand p l e R s m args below meth c T locs cells slots) (hx : p.tables.exec = Jvm.exec) (hby : c.code = bs) (hZ : Z.Warmed39 s.vm) (eT : T.heap = h) (F : Av Z h a .int vs) {j : Int32} {x : Int32} (h0 : ¬ j < 0) (h1 : j.toNatClampNeg < vs.length) (hd : decode bs pc = .ok (.iastore, 1)) (hq : pc + 1 = q) (k : ∀ T' h', Stand p l e R s m args below meth c T' (locs ++ [⟨a, j.toNatClampNeg⟩]) cells slots → T'.heap = h' → Wr h h' a j.toNatClampNeg (.int x) → Av Z h' a .int (vs.set j.toNatClampNeg (.int x)) → G (T'.setTop (mkF m q Ls S))) : G (T.setTop (mkF m pc Ls (.int x :: .int j :: .ref a :: S))) := by
  subst hq
  obtain ⟨cl, A, r⟩ := F
  obtain ⟨T', h', X', e', W', st⟩ := stI X hx hZ eT A (j := j) (own_in r h0 h1) (g := mkF m pc Ls (.int x :: .int j :: .ref a :: S)) rfl rfl (hb hby hd)
  exact K _ _ st (k T' h' X' e' W' (Av.set ⟨cl, A, r⟩ W'))
theorem k_stJ (K : Cl p e below G) (X : Stand p l e R s m args below meth c T locs cells slots) (hx : p.tables.exec = Jvm.exec) (hby : c.code = bs) (hZ : Z.Warmed39 s.vm) (eT : T.heap = h) (F : Av Z h a .long vs) {j : Int32} {x : Int64} (h0 : ¬ j < 0) (h1 : j.toNatClampNeg < vs.length) (hd : decode bs pc = .ok (.lastore, 1)) (hq : pc + 1 = q) (k : ∀ T' h', Stand p l e R s m args below meth c T' (locs ++ [⟨a, j.toNatClampNeg⟩]) cells slots → T'.heap = h' → Wr h h' a j.toNatClampNeg (.long x) → Av Z h' a .long (vs.set j.toNatClampNeg (.long x)) → G (T'.setTop (mkF m q Ls S))) : G (T.setTop (mkF m pc Ls (.long x :: .int j :: .ref a :: S))) := by
  subst hq
  obtain ⟨cl, A, r⟩ := F
  obtain ⟨T', h', X', e', W', st⟩ := stJ X hx hZ eT A (j := j) (own_in r h0 h1) (g := mkF m pc Ls (.long x :: .int j :: .ref a :: S)) rfl rfl (hb hby hd)
  exact K _ _ st (k T' h' X' e' W' (Av.set ⟨cl, A, r⟩ W'))
theorem k_stC (K : Cl p e below G) (X : Stand p l e R s m args below meth c T locs cells slots) (hx : p.tables.exec = Jvm.exec) (hby : c.code = bs) (hZ : Z.Warmed39 s.vm) (eT : T.heap = h) (F : Av Z h a .char vs) {j : Int32} {x : Int32} (h0 : ¬ j < 0) (h1 : j.toNatClampNeg < vs.length) (hd : decode bs pc = .ok (.castore, 1)) (hq : pc + 1 = q) (k : ∀ T' h', Stand p l e R s m args below meth c T' (locs ++ [⟨a, j.toNatClampNeg⟩]) cells slots → T'.heap = h' → Wr h h' a j.toNatClampNeg (.int (nar .char x)) → Av Z h' a .char (vs.set j.toNatClampNeg (.int (nar .char x))) → G (T'.setTop (mkF m q Ls S))) : G (T.setTop (mkF m pc Ls (.int x :: .int j :: .ref a :: S))) := by
  subst hq
  obtain ⟨cl, A, r⟩ := F
  obtain ⟨T', h', X', e', W', st⟩ := stC X hx hZ eT A (j := j) (own_in r h0 h1) (g := mkF m pc Ls (.int x :: .int j :: .ref a :: S)) rfl rfl (hb hby hd)
  exact K _ _ st (k T' h' X' e' W' (Av.set ⟨cl, A, r⟩ W'))
theorem k_stB (K : Cl p e below G) (X : Stand p l e R s m args below meth c T locs cells slots) (hx : p.tables.exec = Jvm.exec) (hby : c.code = bs) (hZ : Z.Warmed39 s.vm) (eT : T.heap = h) (F : Av Z h a .byte vs) {j : Int32} {x : Int32} (h0 : ¬ j < 0) (h1 : j.toNatClampNeg < vs.length) (hd : decode bs pc = .ok (.bastore, 1)) (hq : pc + 1 = q) (k : ∀ T' h', Stand p l e R s m args below meth c T' (locs ++ [⟨a, j.toNatClampNeg⟩]) cells slots → T'.heap = h' → Wr h h' a j.toNatClampNeg (.int (nar .byte x)) → Av Z h' a .byte (vs.set j.toNatClampNeg (.int (nar .byte x))) → G (T'.setTop (mkF m q Ls S))) : G (T.setTop (mkF m pc Ls (.int x :: .int j :: .ref a :: S))) := by
  subst hq
  obtain ⟨cl, A, r⟩ := F
  obtain ⟨T', h', X', e', W', st⟩ := stB X hx hZ eT A (j := j) (own_in r h0 h1) (g := mkF m pc Ls (.int x :: .int j :: .ref a :: S)) rfl rfl (hb hby hd)
  exact K _ _ st (k T' h' X' e' W' (Av.set ⟨cl, A, r⟩ W'))
theorem k_stZ (K : Cl p e below G) (X : Stand p l e R s m args below meth c T locs cells slots) (hx : p.tables.exec = Jvm.exec) (hby : c.code = bs) (hZ : Z.Warmed39 s.vm) (eT : T.heap = h) (F : Av Z h a .boolean vs) {j : Int32} {x : Int32} (h0 : ¬ j < 0) (h1 : j.toNatClampNeg < vs.length) (hd : decode bs pc = .ok (.bastore, 1)) (hq : pc + 1 = q) (k : ∀ T' h', Stand p l e R s m args below meth c T' (locs ++ [⟨a, j.toNatClampNeg⟩]) cells slots → T'.heap = h' → Wr h h' a j.toNatClampNeg (.int (nar .boolean x)) → Av Z h' a .boolean (vs.set j.toNatClampNeg (.int (nar .boolean x))) → G (T'.setTop (mkF m q Ls S))) : G (T.setTop (mkF m pc Ls (.int x :: .int j :: .ref a :: S))) := by
  subst hq
  obtain ⟨cl, A, r⟩ := F
  obtain ⟨T', h', X', e', W', st⟩ := stZ X hx hZ eT A (j := j) (own_in r h0 h1) (g := mkF m pc Ls (.int x :: .int j :: .ref a :: S)) rfl rfl (hb hby hd)
  exact K _ _ st (k T' h' X' e' W' (Av.set ⟨cl, A, r⟩ W'))
theorem k_stD (K : Cl p e below G) (X : Stand p l e R s m args below meth c T locs cells slots) (hx : p.tables.exec = Jvm.exec) (hby : c.code = bs) (hZ : Z.Warmed39 s.vm) (eT : T.heap = h) (F : Av Z h a .double vs) {j : Int32} {x : UInt64} (h0 : ¬ j < 0) (h1 : j.toNatClampNeg < vs.length) (hd : decode bs pc = .ok (.dastore, 1)) (hq : pc + 1 = q) (k : ∀ T' h', Stand p l e R s m args below meth c T' (locs ++ [⟨a, j.toNatClampNeg⟩]) cells slots → T'.heap = h' → Wr h h' a j.toNatClampNeg (.double x) → Av Z h' a .double (vs.set j.toNatClampNeg (.double x)) → G (T'.setTop (mkF m q Ls S))) : G (T.setTop (mkF m pc Ls (.double x :: .int j :: .ref a :: S))) := by
  subst hq
  obtain ⟨cl, A, r⟩ := F
  obtain ⟨T', h', X', e', W', st⟩ := stD X hx hZ eT A (j := j) (own_in r h0 h1) (g := mkF m pc Ls (.double x :: .int j :: .ref a :: S)) rfl rfl (hb hby hd)
  exact K _ _ st (k T' h' X' e' W' (Av.set ⟨cl, A, r⟩ W'))
def Avr (Z : State) (h : Heap) (a : Addr) (C : String) (vs : List Value) : Prop := ∃ cl : Cell, Arr Z h a cl (.object C) ∧ cl.slots = vs.toArray ∧ Ovr Z cl.cls C
variable {C : String}
theorem Avr.av (F : Avr Z h a C vs) : Av Z h a (.object C) vs := by obtain ⟨c, A, r, -⟩ := F; exact ⟨c, A, r⟩
theorem Avr.lt (F : Avr Z h a C vs) : a < h.size := F.av.lt
theorem Avr.ext (F : Avr Z h a C vs) (E : Ext h h') : Avr Z h' a C vs := by obtain ⟨c, A, r⟩ := F; exact ⟨c, A.ext E, r⟩
theorem Avr.other (F : Avr Z h b C vs) (W : Wr h h' a sl v) (q : b ≠ a) : Avr Z h' b C vs := by obtain ⟨c, A, r⟩ := F; exact ⟨c, A.other W q, r⟩
theorem Avr.keep (F : Avr Z h a C vs) (K : Keep h h' ws) (q : a ∉ ws) : Avr Z h' a C vs := by obtain ⟨c, A, r⟩ := F; exact ⟨c, ⟨K.2.1 a c A.1 q, A.2⟩, r⟩
theorem Avr.new {k : ClassId} {z : Int32} {n : Nat} (A : Arr Z h a (newA k (.object C) z) (.object C)) (O : Ovr Z k C) (hn : z.toNatClampNeg = n) : Avr Z h a C (List.replicate n .null) := ⟨_, A, by subst hn; simp [newA, defaultValue], O⟩
theorem Avr.set (F : Avr Z h a C vs) (W : Wr h h' a sl v) : Avr Z h' a C (vs.set sl v) := by
  obtain ⟨c, A, r, O⟩ := F
  exact ⟨_, A.same W, by simp [Cell.setSlot, r], O⟩
theorem k_stR (K : Cl p e below G) (X : Stand p l e R s m args below meth c T locs cells slots) (hx : p.tables.exec = Jvm.exec) (hby : c.code = bs) (hZ : Z.Warmed39 s.vm) (eT : T.heap = h) (F : Avr Z h a C vs) {j : Int32} (h0 : ¬ j < 0) (h1 : j.toNatClampNeg < vs.length) (hv : v = .null ∨ ∃ y, v = .ref y ∧ Ins Z h y C true) (hd : decode bs pc = .ok (.aastore, 1)) (hq : pc + 1 = q) (k : ∀ T' h', Stand p l e R s m args below meth c T' (locs ++ [⟨a, j.toNatClampNeg⟩]) cells slots → T'.heap = h' → Wr h h' a j.toNatClampNeg v → Avr Z h' a C (vs.set j.toNatClampNeg v) → G (T'.setTop (mkF m q Ls S))) : G (T.setTop (mkF m pc Ls (v :: .int j :: .ref a :: S))) := by
  subst hq
  obtain ⟨cl, A, r, O⟩ := F
  have St : Sto Z h a v := by
    rcases hv with rfl | ⟨y, rfl, I⟩
    · exact Or.inl rfl
    · exact Sto.of A O I
  obtain ⟨T', h', X', e', W', st⟩ := stR X hx hZ eT A (j := j) (own_in r h0 h1) rfl St (g := mkF m pc Ls (v :: .int j :: .ref a :: S)) rfl rfl (hb hby hd)
  exact K _ _ st (k T' h' X' e' W' (Avr.set ⟨cl, A, r, O⟩ W'))
theorem k_newP (K : Cl p e below G) (X : Stand p l e R s m args below meth c T locs cells slots) (hx : p.tables.exec = Jvm.exec) (hby : c.code = bs) (hZ : Z.Warmed39 s.vm) {aty : ArrayType} {n : Int32} (N cap : Nat) (w : (Jvm.Cond.arrayClass (newarray.typeOf aty)).before a0 Z = true) (eT : T.heap = h) (hd : decode bs pc = .ok (.newarray aty, 2)) (hq : pc + 2 = q) (hn : ¬ n < 0) (hN : n.toNatClampNeg = N) (hcap : N ≤ cap) (hcb : cap * 8 ≤ 536870912) (hc : cells + 1 ≤ R.cells) (hl : slots + cap ≤ R.slots)
    (k : ∀ T' h' b, Stand p l e R s m args below meth c T' locs (cells + 1) (slots + cap) → T'.heap = h' → Ext h h' → b = h.size → Av Z h' b (newarray.typeOf aty) (List.replicate N (defaultValue (newarray.typeOf aty))) → G (T'.setTop (mkF m q Ls (.ref b :: S)))) : G (T.setTop (mkF m pc Ls (.int n :: S))) := by
  subst hq hN
  obtain ⟨T', h', kA, X', e', E', A', st⟩ := newP X hx hZ w eT (g := mkF m pc Ls (.int n :: S)) rfl (hb hby hd) rfl hn hcap hcb hc hl
  exact K _ _ st (k T' h' _ X' e' E' rfl (Av.new A' rfl))
theorem k_newR (K : Cl p e below G) (X : Stand p l e R s m args below meth c T locs cells slots) (hx : p.tables.exec = Jvm.exec) (hby : c.code = bs) (hZ : Z.Warmed39 s.vm) {own : String} {i : Nat} {n : Int32} (N cap : Nat) (hown : s.vm.findClass own = some m.cls) (w1 : (Jvm.Cond.classLink own i C).before a0 Z = true) (w2 : (Jvm.Cond.arrayOver (.object C)).before a0 Z = true) (eT : T.heap = h) (hd : decode bs pc = .ok (.anewarray i, 3)) (hq : pc + 3 = q) (hn : ¬ n < 0) (hN : n.toNatClampNeg = N) (hcap : N ≤ cap) (hcb : cap * 8 ≤ 536870912) (hc : cells + 1 ≤ R.cells) (hl : slots + cap ≤ R.slots)
    (k : ∀ T' h' b, Stand p l e R s m args below meth c T' locs (cells + 1) (slots + cap) → T'.heap = h' → Ext h h' → b = h.size → Avr Z h' b C (List.replicate N .null) → G (T'.setTop (mkF m q Ls (.ref b :: S)))) : G (T.setTop (mkF m pc Ls (.int n :: S))) := by
  subst hq hN
  obtain ⟨T', h', kA, X', e', E', A', O', st⟩ := newR X hx hZ hown w1 w2 eT (g := mkF m pc Ls (.int n :: S)) rfl (hb hby hd) rfl hn hcap hcb hc hl
  exact K _ _ st (k T' h' _ X' e' E' rfl (Avr.new A' O' rfl))
theorem own_ge {H : Heap} {b c : Addr} {j : Nat} (g : b = H.size) (q : c = b + 1 + j) : H.size ≤ c := by subst g q; exact Nat.le_trans (Nat.le_add_right _ _) (Nat.le_add_right _ _)
theorem own_le {b c : Addr} {j : Nat} (q : c = b + 1 + j) : b ≤ c := by subst q; exact Nat.le_trans (Nat.le_add_right _ _) (Nat.le_add_right _ _)
theorem own_ne {b c : Addr} {j : Nat} (q : c = b + 1 + j) : b ≠ c := by subst q; exact Nat.ne_of_lt (Nat.lt_of_lt_of_le (Nat.lt_succ_self _) (Nat.le_add_right _ _))
theorem own_ne2 {b c d : Addr} {i j : Nat} (q : c = b + 1 + i) (r : d = b + 1 + j) (h : i ≠ j) : c ≠ d := by subst q r; exact fun e => h (Nat.add_left_cancel e)
end OwnArr
theorem d_jdk_22_1_0 : decode jdk_22_method_1_code 0 = .ok (.aload_n 0, 1) := by decide +kernel
theorem d_jdk_22_1_1 : decode jdk_22_method_1_code 1 = .ok (.invokespecial 1, 3) := by decide +kernel
theorem d_jdk_22_1_4 : decode jdk_22_method_1_code 4 = .ok (.return_, 1) := by decide +kernel
theorem pn_java_util_AbstractCollection : plainName "java/util/AbstractCollection" = true := by first | (simp [plainName, overriddenIn]; done) | decide +kernel
theorem ef3 (m : MethodId) (x0 : Addr) : entryFrame m #[(.ref x0)] 1 = mkF m 0 #[.val (.ref x0)] [] := by first | (simp [entryFrame, mkF, argsToLocals, Value.category]; done) | rfl
set_option maxRecDepth 65536 in
set_option maxHeartbeats 40000000 in
theorem c3 (l : Launch) (Z : State) (a0 : Array Value) (hw : ∀ d ∈ tables_1, d.before a0 Z = true) (a1 : Addr) (h0 : Heap) (n0 : Nat) (Z0 : n0 ≤ h0.size) :
    Con l Z (⟨"java/util/AbstractCollection", "<init>", "()V"⟩ : MethodName) jdk_22_method_1_code 1 none ({ frames := 1, cells := 0, slots := 0, locals := 12 } : Room) [] #[(.ref a1)] h0 (fun v h L => v = none ∧ h = h0 ∧ L = []) := by
  refine Con.of (plainFor_of_name pn_java_util_AbstractCollection) #[.val (.ref a1)] (fun m => ef3 m a1) ?_
  intro p e s m below meth c s₁ K hx hby hml hown hnm hret hlk hZ X0 e0
  have N0 := Fr.nil n0
  refine m_aloadN K X0.here hx hby d_jdk_22_1_0 rfl rfl rfl ?_
  refine k_initO K X0 hx hby hZ hown (hw _ (List.mem_of_getElem? (i := 20) rfl)) (hw _ (List.mem_of_getElem? (i := 21) rfl)) (hw _ (List.mem_of_getElem? (i := 22) rfl)) e0 d_jdk_22_1_1 (by rw [hml]; rfl) rfl (by decide) (Nat.le_of_ble_eq_true rfl) fun T1 X1 e1 => ?_
  exact Go.retV X1 hx hby hlk hret d_jdk_22_1_4 (by decide) (by decide) (⟨rfl, e1, rfl⟩)
theorem d_jdk_39_1_0 : decode jdk_39_method_1_code 0 = .ok (.aload_n 0, 1) := by decide +kernel
theorem d_jdk_39_1_1 : decode jdk_39_method_1_code 1 = .ok (.invokespecial 1, 3) := by decide +kernel
theorem d_jdk_39_1_4 : decode jdk_39_method_1_code 4 = .ok (.aload_n 0, 1) := by decide +kernel
theorem d_jdk_39_1_5 : decode jdk_39_method_1_code 5 = .ok (.iconst 0, 1) := by decide +kernel
theorem d_jdk_39_1_6 : decode jdk_39_method_1_code 6 = .ok (.putfield 7, 3) := by decide +kernel
theorem d_jdk_39_1_9 : decode jdk_39_method_1_code 9 = .ok (.return_, 1) := by decide +kernel
theorem pn_java_util_AbstractList : plainName "java/util/AbstractList" = true := by first | (simp [plainName, overriddenIn]; done) | decide +kernel
theorem pd_0 : parseMethodDescriptor "()V" = some ⟨[], none⟩ := by decide +kernel
theorem ef2 (m : MethodId) (x0 : Addr) : entryFrame m #[(.ref x0)] 1 = mkF m 0 #[.val (.ref x0)] [] := by first | (simp [entryFrame, mkF, argsToLocals, Value.category]; done) | rfl
set_option maxRecDepth 65536 in
set_option maxHeartbeats 40000000 in
theorem c2 (l : Launch) (Z : State) (a0 : Array Value) (hw : ∀ d ∈ tables_1, d.before a0 Z = true) (a1 : Addr) (u1 : Int32) (h0 : Heap) (n0 : Nat) (Z0 : n0 ≤ h0.size) (E_a1 : Exa Z h0 a1 "java/util/ArrayList") (F_modCount_a1 : Fld Z h0 a1 "java/util/AbstractList" "modCount" "I" (.int u1)) (F_elementData_a1 : Fld Z h0 a1 "java/util/ArrayList" "elementData" "[Ljava/lang/Object;" .null) (g_a1 : n0 ≤ a1) :
    Con l Z (⟨"java/util/AbstractList", "<init>", "()V"⟩ : MethodName) jdk_39_method_1_code 1 none ({ frames := 2, cells := 0, slots := 0, locals := 24 } : Room) [] #[(.ref a1)] h0 (fun v h L => v = none ∧ Fr n0 L ∧ Keep h0 h [a1] ∧ Fld Z h a1 "java/util/AbstractList" "modCount" "I" (.int (0 : Int32)) ∧ Fld Z h a1 "java/util/ArrayList" "elementData" "[Ljava/lang/Object;" .null) := by
  refine Con.of (plainFor_of_name pn_java_util_AbstractList) #[.val (.ref a1)] (fun m => ef2 m a1) ?_
  intro p e s m below meth c s₁ K hx hby hml hown hnm hret hlk hZ X0 e0
  have N0 := Fr.nil n0
  refine m_aloadN K X0.here hx hby d_jdk_39_1_0 rfl rfl rfl ?_
  refine k_callP K X0 hx hby hZ a1 [] [] hown (hw _ (List.mem_of_getElem? (i := 14) rfl)) (hw _ (List.mem_of_getElem? (i := 15) rfl)) (hw _ (List.mem_of_getElem? (i := 18) rfl)) (hw _ (List.mem_of_getElem? (i := 19) rfl)) rfl (c3 l Z a0 hw a1 h0 n0 Z0) e0 rfl rfl pd_0 rfl d_jdk_39_1_1 (by rw [hml]; rfl) rfl (by decide) (by decide) (Nat.le_of_ble_eq_true rfl) (by decide) (by decide) fun v1 T1 L1 X1 q1 => ?_
  obtain ⟨rfl, e1, rfl⟩ := q1
  replace X1 := own_px X1
  refine k_none K ?_
  refine m_aloadN K X1.here hx hby d_jdk_39_1_4 rfl rfl rfl ?_
  refine m_iconst K X1.here hx hby (0 : Int32) d_jdk_39_1_5 rfl rfl ?_
  refine k_putF K X1 hx hby hZ hown (host := "") (Or.inl (hw _ (List.mem_of_getElem? (i := 23) rfl))) Via.refl e1 F_modCount_a1 E_a1 (Or.inl (hw _ (List.mem_of_getElem? (i := 24) rfl))) (hw _ (List.mem_of_getElem? (i := 3) rfl)) (ty := .int) (by decide) rfl rfl d_jdk_39_1_6 rfl fun T2 h2 X2 e2 W2 => ?_
  have Fw2 := F_modCount_a1.same W2
  have N2 := Fr.snoc X2 N0 g_a1
  exact Go.retV X2 hx hby hlk hret d_jdk_39_1_9 (by decide) (by decide) (by rw [e2]; exact ⟨rfl, N2, ((Keep.refl h0 [a1]).wr W2 (Or.inl (by simp))), Fw2, (F_elementData_a1.other W2 (Or.inr (slot_ne (Or.inl (hw _ (List.mem_of_getElem? (i := 27) rfl))) (Or.inl (hw _ (List.mem_of_getElem? (i := 24) rfl))) (by decide) (t := (.array (.object "java/lang/Object"))) (t' := .int) (by decide) (by decide))))⟩)
theorem d_jdk_38_2_0 : decode jdk_38_method_2_code 0 = .ok (.aload_n 0, 1) := by decide +kernel
theorem d_jdk_38_2_1 : decode jdk_38_method_2_code 1 = .ok (.invokespecial 1, 3) := by decide +kernel
theorem d_jdk_38_2_4 : decode jdk_38_method_2_code 4 = .ok (.aload_n 0, 1) := by decide +kernel
theorem d_jdk_38_2_5 : decode jdk_38_method_2_code 5 = .ok (.getstatic 39, 3) := by decide +kernel
theorem d_jdk_38_2_8 : decode jdk_38_method_2_code 8 = .ok (.putfield 9, 3) := by decide +kernel
theorem d_jdk_38_2_11 : decode jdk_38_method_2_code 11 = .ok (.return_, 1) := by decide +kernel
theorem pn_java_util_ArrayList : plainName "java/util/ArrayList" = true := by first | (simp [plainName, overriddenIn]; done) | decide +kernel
theorem ef1 (m : MethodId) (x0 : Addr) : entryFrame m #[(.ref x0)] 1 = mkF m 0 #[.val (.ref x0)] [] := by first | (simp [entryFrame, mkF, argsToLocals, Value.category]; done) | rfl
set_option maxRecDepth 65536 in
set_option maxHeartbeats 40000000 in
theorem c1 (l : Launch) (Z : State) (a0 : Array Value) (hw : ∀ d ∈ tables_1, d.before a0 Z = true) (a1 : Addr) (u1 : Int32) (d1 : Addr) (h0 : Heap) (n0 : Nat) (Z0 : n0 ≤ h0.size) (E_a1 : Exa Z h0 a1 "java/util/ArrayList") (F_modCount_a1 : Fld Z h0 a1 "java/util/AbstractList" "modCount" "I" (.int u1)) (F_elementData_a1 : Fld Z h0 a1 "java/util/ArrayList" "elementData" "[Ljava/lang/Object;" .null) (S_ArrayList_DEFAULTCAPACITY_EMPTY_ELEMENTDATA : Sta Z Z.heap "java/util/ArrayList" "DEFAULTCAPACITY_EMPTY_ELEMENTDATA" "[Ljava/lang/Object;" (.ref d1)) (O0 : Old Z n0 h0) (g_a1 : n0 ≤ a1) :
    Con l Z (⟨"java/util/ArrayList", "<init>", "()V"⟩ : MethodName) jdk_38_method_2_code 1 none ({ frames := 3, cells := 0, slots := 0, locals := 36 } : Room) [] #[(.ref a1)] h0 (fun v h L => v = none ∧ Fr n0 L ∧ Keep h0 h [a1]) := by
  refine Con.of (plainFor_of_name pn_java_util_ArrayList) #[.val (.ref a1)] (fun m => ef1 m a1) ?_
  intro p e s m below meth c s₁ K hx hby hml hown hnm hret hlk hZ X0 e0
  have N0 := Fr.nil n0
  refine m_aloadN K X0.here hx hby d_jdk_38_2_0 rfl rfl rfl ?_
  refine k_callP K X0 hx hby hZ a1 [] [] hown (hw _ (List.mem_of_getElem? (i := 8) rfl)) (hw _ (List.mem_of_getElem? (i := 9) rfl)) (hw _ (List.mem_of_getElem? (i := 12) rfl)) (hw _ (List.mem_of_getElem? (i := 13) rfl)) rfl (c2 l Z a0 hw a1 u1 h0 n0 Z0 E_a1 F_modCount_a1 F_elementData_a1 g_a1) e0 rfl rfl pd_0 rfl d_jdk_38_2_1 (by rw [hml]; rfl) rfl (by decide) (by decide) (Nat.le_of_ble_eq_true rfl) (by decide) (by decide) fun v1 T1 L1 X1 q1 => ?_
  obtain ⟨rfl, Nq1, K1, Fp1_0, Fp1_1⟩ := q1
  have N1 := Fr.app N0 Nq1
  refine k_none K ?_
  refine m_aloadN K X1.here hx hby d_jdk_38_2_4 rfl rfl rfl ?_
  refine k_getS K X1 hx hby hZ hown (host := "") (Or.inl (hw _ (List.mem_of_getElem? (i := 25) rfl))) Via.refl rfl (S_ArrayList_DEFAULTCAPACITY_EMPTY_ELEMENTDATA.ext (O0.keep K1 (allS g_a1 all0)).2) d_jdk_38_2_5 rfl fun T2 X2 e2 => ?_
  refine k_putF K X2 hx hby hZ hown (host := "") (Or.inl (hw _ (List.mem_of_getElem? (i := 26) rfl))) Via.refl e2 Fp1_1 (E_a1.keep K1) (Or.inl (hw _ (List.mem_of_getElem? (i := 27) rfl))) (hw _ (List.mem_of_getElem? (i := 3) rfl)) (ty := (.array (.object "java/lang/Object"))) (by decide) rfl rfl d_jdk_38_2_8 rfl fun T3 h3 X3 e3 W3 => ?_
  have Fw3 := Fp1_1.same W3
  have N3 := Fr.snoc X3 N1 g_a1
  exact Go.retV X3 hx hby hlk hret d_jdk_38_2_11 (by decide) (by decide) (by rw [e3]; exact ⟨rfl, N3, (((Keep.refl h0 [a1]).trans K1 (allS (Or.inl (by simp)) all0)).wr W3 (Or.inl (by simp)))⟩)
theorem d_jdk_65_111_0 : decode jdk_65_method_111_code 0 = .ok (.iconst 0, 1) := by decide +kernel
theorem d_jdk_65_111_1 : decode jdk_65_method_111_code 1 = .ok (.istore_n 2, 1) := by decide +kernel
theorem d_jdk_65_111_2 : decode jdk_65_method_111_code 2 = .ok (.aload_n 0, 1) := by decide +kernel
theorem d_jdk_65_111_3 : decode jdk_65_method_111_code 3 = .ok (.arraylength, 1) := by decide +kernel
theorem d_jdk_65_111_4 : decode jdk_65_method_111_code 4 = .ok (.istore_n 3, 1) := by decide +kernel
theorem d_jdk_65_111_5 : decode jdk_65_method_111_code 5 = .ok (.iload_n 2, 1) := by decide +kernel
theorem d_jdk_65_111_6 : decode jdk_65_method_111_code 6 = .ok (.iload_n 3, 1) := by decide +kernel
theorem d_jdk_65_111_7 : decode jdk_65_method_111_code 7 = .ok (.if_icmp .ge 13, 3) := by decide +kernel
theorem d_jdk_65_111_10 : decode jdk_65_method_111_code 10 = .ok (.aload_n 0, 1) := by decide +kernel
theorem d_jdk_65_111_11 : decode jdk_65_method_111_code 11 = .ok (.iload_n 2, 1) := by decide +kernel
theorem d_jdk_65_111_12 : decode jdk_65_method_111_code 12 = .ok (.iload_n 1, 1) := by decide +kernel
theorem d_jdk_65_111_13 : decode jdk_65_method_111_code 13 = .ok (.bastore, 1) := by decide +kernel
theorem d_jdk_65_111_14 : decode jdk_65_method_111_code 14 = .ok (.iinc 2 1, 3) := by decide +kernel
theorem d_jdk_65_111_17 : decode jdk_65_method_111_code 17 = .ok (.goto (-12), 3) := by decide +kernel
theorem d_jdk_65_111_20 : decode jdk_65_method_111_code 20 = .ok (.return_, 1) := by decide +kernel
theorem pn_java_util_Arrays : plainName "java/util/Arrays" = true := by first | (simp [plainName, overriddenIn]; done) | decide +kernel
theorem ef6 (m : MethodId) (x0 : Addr) (x1 : Int32) : entryFrame m #[(.ref x0), (.int x1)] 4 = mkF m 0 #[.val (.ref x0), .val (.int x1), .unset, .unset] [] := by first | (simp [entryFrame, mkF, argsToLocals, Value.category]; done) | rfl
set_option maxRecDepth 65536 in
set_option maxHeartbeats 40000000 in
theorem c6 (l : Launch) (Z : State) (a0 : Array Value) (hw : ∀ d ∈ tables_1, d.before a0 Z = true) (a1 : Addr) (h0 : Heap) (n0 : Nat) (Z0 : n0 ≤ h0.size) (A_a1 : Av Z h0 a1 .boolean [(.int (0 : Int32)), (.int (0 : Int32)), (.int (0 : Int32)), (.int (0 : Int32)), (.int (0 : Int32))]) (g_a1 : n0 ≤ a1) :
    Con l Z (⟨"java/util/Arrays", "fill", "([ZZ)V"⟩ : MethodName) jdk_65_method_111_code 4 none ({ frames := 0, cells := 0, slots := 0, locals := 0 } : Room) [] #[(.ref a1), (.int (1 : Int32))] h0 (fun v h L => v = none ∧ Fr n0 L ∧ Keep h0 h [a1] ∧ Av Z h a1 .boolean [(.int (1 : Int32)), (.int (1 : Int32)), (.int (1 : Int32)), (.int (1 : Int32)), (.int (1 : Int32))]) := by
  refine Con.of (plainFor_of_name pn_java_util_Arrays) #[.val (.ref a1), .val (.int (1 : Int32)), .unset, .unset] (fun m => ef6 m a1 (1 : Int32)) ?_
  intro p e s m below meth c s₁ K hx hby hml hown hnm hret hlk hZ X0 e0
  have N0 := Fr.nil n0
  refine m_iconst K X0.here hx hby (0 : Int32) d_jdk_65_111_0 rfl rfl ?_
  refine m_istoreN K X0.here hx hby #[.val (.ref a1), .val (.int (1 : Int32)), .val (.int (0 : Int32)), .unset] d_jdk_65_111_1 rfl rfl ?_
  refine m_aloadN K X0.here hx hby d_jdk_65_111_2 rfl rfl rfl ?_
  refine k_len K X0 hx hby hZ (5 : Int32) e0 A_a1 rfl d_jdk_65_111_3 rfl ?_
  refine m_istoreN K X0.here hx hby #[.val (.ref a1), .val (.int (1 : Int32)), .val (.int (0 : Int32)), .val (.int (5 : Int32))] d_jdk_65_111_4 rfl rfl ?_
  refine m_iloadN K X0.here hx hby d_jdk_65_111_5 rfl rfl ?_
  refine m_iloadN K X0.here hx hby d_jdk_65_111_6 rfl rfl ?_
  refine m_icmpN K X0.here hx hby (q := 10) d_jdk_65_111_7 (tlt (by decide : (0 : Int32) < (5 : Int32))).2.1 rfl ?_
  refine m_aloadN K X0.here hx hby d_jdk_65_111_10 rfl rfl rfl ?_
  refine m_iloadN K X0.here hx hby d_jdk_65_111_11 rfl rfl ?_
  refine m_iloadN K X0.here hx hby d_jdk_65_111_12 rfl rfl ?_
  refine k_stZ K X0 hx hby hZ e0 A_a1 (by decide) (Nat.le_of_ble_eq_true rfl) d_jdk_65_111_13 rfl fun T1 h1 X1 e1 W1 V1 => ?_
  replace V1 : Av Z h1 a1 .boolean [(.int (1 : Int32)), (.int (0 : Int32)), (.int (0 : Int32)), (.int (0 : Int32)), (.int (0 : Int32))] := V1
  have N1 := Fr.snoc X1 N0 g_a1
  refine m_iinc K X1.here hx hby #[.val (.ref a1), .val (.int (1 : Int32)), .val (.int (1 : Int32)), .val (.int (5 : Int32))] d_jdk_65_111_14 rfl rfl rfl ?_
  refine m_goto K X1.here hx hby (q := 5) d_jdk_65_111_17 (by decide) rfl ?_
  refine m_iloadN K X1.here hx hby d_jdk_65_111_5 rfl rfl ?_
  refine m_iloadN K X1.here hx hby d_jdk_65_111_6 rfl rfl ?_
  refine m_icmpN K X1.here hx hby (q := 10) d_jdk_65_111_7 (tlt (by decide : (1 : Int32) < (5 : Int32))).2.1 rfl ?_
  refine m_aloadN K X1.here hx hby d_jdk_65_111_10 rfl rfl rfl ?_
  refine m_iloadN K X1.here hx hby d_jdk_65_111_11 rfl rfl ?_
  refine m_iloadN K X1.here hx hby d_jdk_65_111_12 rfl rfl ?_
  refine k_stZ K X1 hx hby hZ e1 V1 (by decide) (Nat.le_of_ble_eq_true rfl) d_jdk_65_111_13 rfl fun T2 h2 X2 e2 W2 V2 => ?_
  replace V2 : Av Z h2 a1 .boolean [(.int (1 : Int32)), (.int (1 : Int32)), (.int (0 : Int32)), (.int (0 : Int32)), (.int (0 : Int32))] := V2
  have N2 := Fr.snoc X2 N1 g_a1
  refine m_iinc K X2.here hx hby #[.val (.ref a1), .val (.int (1 : Int32)), .val (.int (2 : Int32)), .val (.int (5 : Int32))] d_jdk_65_111_14 rfl rfl rfl ?_
  refine m_goto K X2.here hx hby (q := 5) d_jdk_65_111_17 (by decide) rfl ?_
  refine m_iloadN K X2.here hx hby d_jdk_65_111_5 rfl rfl ?_
  refine m_iloadN K X2.here hx hby d_jdk_65_111_6 rfl rfl ?_
  refine m_icmpN K X2.here hx hby (q := 10) d_jdk_65_111_7 (tlt (by decide : (2 : Int32) < (5 : Int32))).2.1 rfl ?_
  refine m_aloadN K X2.here hx hby d_jdk_65_111_10 rfl rfl rfl ?_
  refine m_iloadN K X2.here hx hby d_jdk_65_111_11 rfl rfl ?_
  refine m_iloadN K X2.here hx hby d_jdk_65_111_12 rfl rfl ?_
  refine k_stZ K X2 hx hby hZ e2 V2 (by decide) (Nat.le_of_ble_eq_true rfl) d_jdk_65_111_13 rfl fun T3 h3 X3 e3 W3 V3 => ?_
  replace V3 : Av Z h3 a1 .boolean [(.int (1 : Int32)), (.int (1 : Int32)), (.int (1 : Int32)), (.int (0 : Int32)), (.int (0 : Int32))] := V3
  have N3 := Fr.snoc X3 N2 g_a1
  refine m_iinc K X3.here hx hby #[.val (.ref a1), .val (.int (1 : Int32)), .val (.int (3 : Int32)), .val (.int (5 : Int32))] d_jdk_65_111_14 rfl rfl rfl ?_
  refine m_goto K X3.here hx hby (q := 5) d_jdk_65_111_17 (by decide) rfl ?_
  refine m_iloadN K X3.here hx hby d_jdk_65_111_5 rfl rfl ?_
  refine m_iloadN K X3.here hx hby d_jdk_65_111_6 rfl rfl ?_
  refine m_icmpN K X3.here hx hby (q := 10) d_jdk_65_111_7 (tlt (by decide : (3 : Int32) < (5 : Int32))).2.1 rfl ?_
  refine m_aloadN K X3.here hx hby d_jdk_65_111_10 rfl rfl rfl ?_
  refine m_iloadN K X3.here hx hby d_jdk_65_111_11 rfl rfl ?_
  refine m_iloadN K X3.here hx hby d_jdk_65_111_12 rfl rfl ?_
  refine k_stZ K X3 hx hby hZ e3 V3 (by decide) (Nat.le_of_ble_eq_true rfl) d_jdk_65_111_13 rfl fun T4 h4 X4 e4 W4 V4 => ?_
  replace V4 : Av Z h4 a1 .boolean [(.int (1 : Int32)), (.int (1 : Int32)), (.int (1 : Int32)), (.int (1 : Int32)), (.int (0 : Int32))] := V4
  have N4 := Fr.snoc X4 N3 g_a1
  refine m_iinc K X4.here hx hby #[.val (.ref a1), .val (.int (1 : Int32)), .val (.int (4 : Int32)), .val (.int (5 : Int32))] d_jdk_65_111_14 rfl rfl rfl ?_
  refine m_goto K X4.here hx hby (q := 5) d_jdk_65_111_17 (by decide) rfl ?_
  refine m_iloadN K X4.here hx hby d_jdk_65_111_5 rfl rfl ?_
  refine m_iloadN K X4.here hx hby d_jdk_65_111_6 rfl rfl ?_
  refine m_icmpN K X4.here hx hby (q := 10) d_jdk_65_111_7 (tlt (by decide : (4 : Int32) < (5 : Int32))).2.1 rfl ?_
  refine m_aloadN K X4.here hx hby d_jdk_65_111_10 rfl rfl rfl ?_
  refine m_iloadN K X4.here hx hby d_jdk_65_111_11 rfl rfl ?_
  refine m_iloadN K X4.here hx hby d_jdk_65_111_12 rfl rfl ?_
  refine k_stZ K X4 hx hby hZ e4 V4 (by decide) (Nat.le_of_ble_eq_true rfl) d_jdk_65_111_13 rfl fun T5 h5 X5 e5 W5 V5 => ?_
  replace V5 : Av Z h5 a1 .boolean [(.int (1 : Int32)), (.int (1 : Int32)), (.int (1 : Int32)), (.int (1 : Int32)), (.int (1 : Int32))] := V5
  have N5 := Fr.snoc X5 N4 g_a1
  refine m_iinc K X5.here hx hby #[.val (.ref a1), .val (.int (1 : Int32)), .val (.int (5 : Int32)), .val (.int (5 : Int32))] d_jdk_65_111_14 rfl rfl rfl ?_
  refine m_goto K X5.here hx hby (q := 5) d_jdk_65_111_17 (by decide) rfl ?_
  refine m_iloadN K X5.here hx hby d_jdk_65_111_5 rfl rfl ?_
  refine m_iloadN K X5.here hx hby d_jdk_65_111_6 rfl rfl ?_
  refine m_icmpY K X5.here hx hby (q := 20) d_jdk_65_111_7 (flt (by decide : ¬ ((5 : Int32) < (5 : Int32)))).2.1 (by decide) rfl ?_
  exact Go.retV X5 hx hby hlk hret d_jdk_65_111_20 (by decide) (by decide) (by rw [e5]; exact ⟨rfl, N5, ((((((Keep.refl h0 [a1]).wr W1 (Or.inl (by simp))).wr W2 (Or.inl (by simp))).wr W3 (Or.inl (by simp))).wr W4 (Or.inl (by simp))).wr W5 (Or.inl (by simp))), V5⟩)
theorem d_prog_6_1_0 : decode prog_6_method_1_code 0 = .ok (.aload_n 0, 1) := by decide +kernel
theorem d_prog_6_1_1 : decode prog_6_method_1_code 1 = .ok (.invokespecial 3, 3) := by decide +kernel
theorem d_prog_6_1_4 : decode prog_6_method_1_code 4 = .ok (.aload_n 0, 1) := by decide +kernel
theorem d_prog_6_1_5 : decode prog_6_method_1_code 5 = .ok (.iconst 3, 1) := by decide +kernel
theorem d_prog_6_1_6 : decode prog_6_method_1_code 6 = .ok (.iconst 5, 1) := by decide +kernel
theorem d_prog_6_1_7 : decode prog_6_method_1_code 7 = .ok (.multianewarray 9 2, 4) := by decide +kernel
theorem d_prog_6_1_11 : decode prog_6_method_1_code 11 = .ok (.putfield 11, 3) := by decide +kernel
theorem d_prog_6_1_14 : decode prog_6_method_1_code 14 = .ok (.aload_n 0, 1) := by decide +kernel
theorem d_prog_6_1_15 : decode prog_6_method_1_code 15 = .ok (.iconst 3, 1) := by decide +kernel
theorem d_prog_6_1_16 : decode prog_6_method_1_code 16 = .ok (.newarray .boolean, 2) := by decide +kernel
theorem d_prog_6_1_18 : decode prog_6_method_1_code 18 = .ok (.putfield 14, 3) := by decide +kernel
theorem d_prog_6_1_21 : decode prog_6_method_1_code 21 = .ok (.aload_n 0, 1) := by decide +kernel
theorem d_prog_6_1_22 : decode prog_6_method_1_code 22 = .ok (.aload_n 1, 1) := by decide +kernel
theorem d_prog_6_1_23 : decode prog_6_method_1_code 23 = .ok (.putfield 18, 3) := by decide +kernel
theorem d_prog_6_1_26 : decode prog_6_method_1_code 26 = .ok (.aload_n 0, 1) := by decide +kernel
theorem d_prog_6_1_27 : decode prog_6_method_1_code 27 = .ok (.getfield 11, 3) := by decide +kernel
theorem d_prog_6_1_30 : decode prog_6_method_1_code 30 = .ok (.astore_n 2, 1) := by decide +kernel
theorem d_prog_6_1_31 : decode prog_6_method_1_code 31 = .ok (.aload_n 2, 1) := by decide +kernel
theorem d_prog_6_1_32 : decode prog_6_method_1_code 32 = .ok (.arraylength, 1) := by decide +kernel
theorem d_prog_6_1_33 : decode prog_6_method_1_code 33 = .ok (.istore_n 3, 1) := by decide +kernel
theorem d_prog_6_1_34 : decode prog_6_method_1_code 34 = .ok (.iconst 0, 1) := by decide +kernel
theorem d_prog_6_1_35 : decode prog_6_method_1_code 35 = .ok (.istore 4, 2) := by decide +kernel
theorem d_prog_6_1_37 : decode prog_6_method_1_code 37 = .ok (.iload 4, 2) := by decide +kernel
theorem d_prog_6_1_39 : decode prog_6_method_1_code 39 = .ok (.iload_n 3, 1) := by decide +kernel
theorem d_prog_6_1_40 : decode prog_6_method_1_code 40 = .ok (.if_icmp .ge 21, 3) := by decide +kernel
theorem d_prog_6_1_43 : decode prog_6_method_1_code 43 = .ok (.aload_n 2, 1) := by decide +kernel
theorem d_prog_6_1_44 : decode prog_6_method_1_code 44 = .ok (.iload 4, 2) := by decide +kernel
theorem d_prog_6_1_46 : decode prog_6_method_1_code 46 = .ok (.aaload, 1) := by decide +kernel
theorem d_prog_6_1_47 : decode prog_6_method_1_code 47 = .ok (.astore 5, 2) := by decide +kernel
theorem d_prog_6_1_49 : decode prog_6_method_1_code 49 = .ok (.aload 5, 2) := by decide +kernel
theorem d_prog_6_1_51 : decode prog_6_method_1_code 51 = .ok (.iconst 1, 1) := by decide +kernel
theorem d_prog_6_1_52 : decode prog_6_method_1_code 52 = .ok (.invokestatic 22, 3) := by decide +kernel
theorem d_prog_6_1_55 : decode prog_6_method_1_code 55 = .ok (.iinc 4 1, 3) := by decide +kernel
theorem d_prog_6_1_58 : decode prog_6_method_1_code 58 = .ok (.goto (-21), 3) := by decide +kernel
theorem d_prog_6_1_61 : decode prog_6_method_1_code 61 = .ok (.return_, 1) := by decide +kernel
theorem pn_com_example_craterworks_craterworks_SharesStation : plainName "com/example/craterworks/craterworks/SharesStation" = true := by first | (simp [plainName, overriddenIn]; done) | decide +kernel
theorem pd_1 : parseMethodDescriptor "([ZZ)V" = some ⟨[(.array .boolean), .boolean], none⟩ := by decide +kernel
theorem ef5 (m : MethodId) (x0 : Addr) (x1 : Addr) : entryFrame m #[(.ref x0), (.ref x1)] 6 = mkF m 0 #[.val (.ref x0), .val (.ref x1), .unset, .unset, .unset, .unset] [] := by first | (simp [entryFrame, mkF, argsToLocals, Value.category]; done) | rfl
set_option maxRecDepth 65536 in
set_option maxHeartbeats 40000000 in
theorem c5 (l : Launch) (Z : State) (a0 : Array Value) (hw : ∀ d ∈ tables_1, d.before a0 Z = true) (a1 : Addr) (a2 : Addr) (h0 : Heap) (n0 : Nat) (Z0 : n0 ≤ h0.size) (E_a1 : Exa Z h0 a1 "com/example/craterworks/craterworks/SharesStation") (F_occupied_a1 : Fld Z h0 a1 "com/example/craterworks/craterworks/SharesStation" "occupied" "[[Z" .null) (F_uncovered_a1 : Fld Z h0 a1 "com/example/craterworks/craterworks/SharesStation" "uncovered" "[Z" .null) (F_icons_a1 : Fld Z h0 a1 "com/example/craterworks/craterworks/SharesStation" "icons" "Ljava/util/List;" .null) (g_a1 : n0 ≤ a1) :
    Con l Z (⟨"com/example/craterworks/craterworks/SharesStation", "<init>", "(Ljava/util/List;)V"⟩ : MethodName) prog_6_method_1_code 6 none ({ frames := 1, cells := 5, slots := 21, locals := 15 } : Room) [] #[(.ref a1), (.ref a2)] h0 (fun v h L => ∃ bo : Addr, ∃ x0 : Addr, ∃ x1 : Addr, ∃ x2 : Addr, ∃ bu : Addr, v = none ∧ Fr n0 L ∧ Keep h0 h [a1] ∧ h0.size ≤ bo ∧ h0.size ≤ x0 ∧ h0.size ≤ x1 ∧ h0.size ≤ x2 ∧ h0.size ≤ bu ∧ bo ≠ x0 ∧ bo ≠ x1 ∧ bo ≠ x2 ∧ bo ≠ bu ∧ x0 ≠ x1 ∧ x0 ≠ x2 ∧ x0 ≠ bu ∧ x1 ≠ x2 ∧ x1 ≠ bu ∧ x2 ≠ bu ∧ Fld Z h a1 "com/example/craterworks/craterworks/SharesStation" "occupied" "[[Z" (.ref bo) ∧ Fld Z h a1 "com/example/craterworks/craterworks/SharesStation" "uncovered" "[Z" (.ref bu) ∧ Av Z h bo (.array .boolean) [(.ref x0), (.ref x1), (.ref x2)] ∧ Av Z h x0 .boolean [(.int (1 : Int32)), (.int (1 : Int32)), (.int (1 : Int32)), (.int (1 : Int32)), (.int (1 : Int32))] ∧ Av Z h x1 .boolean [(.int (1 : Int32)), (.int (1 : Int32)), (.int (1 : Int32)), (.int (1 : Int32)), (.int (1 : Int32))] ∧ Av Z h x2 .boolean [(.int (1 : Int32)), (.int (1 : Int32)), (.int (1 : Int32)), (.int (1 : Int32)), (.int (1 : Int32))] ∧ Av Z h bu .boolean [(.int (0 : Int32)), (.int (0 : Int32)), (.int (0 : Int32))]) := by
  refine Con.of (plainFor_of_name pn_com_example_craterworks_craterworks_SharesStation) #[.val (.ref a1), .val (.ref a2), .unset, .unset, .unset, .unset] (fun m => ef5 m a1 a2) ?_
  intro p e s m below meth c s₁ K hx hby hml hown hnm hret hlk hZ X0 e0
  have N0 := Fr.nil n0
  refine m_aloadN K X0.here hx hby d_prog_6_1_0 rfl rfl rfl ?_
  refine k_initO K X0 hx hby hZ hown (hw _ (List.mem_of_getElem? (i := 34) rfl)) (hw _ (List.mem_of_getElem? (i := 21) rfl)) (hw _ (List.mem_of_getElem? (i := 22) rfl)) e0 d_prog_6_1_1 (by rw [hml]; rfl) rfl (by decide) (Nat.le_of_ble_eq_true rfl) fun T1 X1 e1 => ?_
  refine m_aloadN K X1.here hx hby d_prog_6_1_4 rfl rfl rfl ?_
  refine m_iconst K X1.here hx hby (3 : Int32) d_prog_6_1_5 rfl rfl ?_
  refine m_iconst K X1.here hx hby (5 : Int32) d_prog_6_1_6 rfl rfl ?_
  obtain ⟨T2, h2, cA2, cB2, X2, e2, E2, A2, OA2, EA2, IN2, st2⟩ := gridM X1 hx hZ hown (ty := .boolean) (C := "[Z") (ad := "[[Z") (by decide) (by decide) (hw _ (List.mem_of_getElem? (i := 35) rfl)) (hw _ (List.mem_of_getElem? (i := 36) rfl)) (hw _ (List.mem_of_getElem? (i := 37) rfl)) e1 (g := (mkF m 7 #[.val (.ref a1), .val (.ref a2), .unset, .unset, .unset, .unset] [(.int (5 : Int32)), (.int (3 : Int32)), (.ref a1)])) rfl (hb hby d_prog_6_1_7) rfl (by decide) (by decide) (N := 3) rfl rfl (cap := 5) (by decide) (by decide) (by decide) rfl rfl (by decide) (by decide)
  obtain ⟨b2, g2⟩ : ∃ z, z = h0.size := ⟨_, rfl⟩
  rw [← g2] at A2 EA2 st2 IN2
  have sz_b2 : h0.size ≤ b2 := Nat.le_trans (Nat.le_refl _) (Nat.le_of_eq g2.symm)
  have g_b2 : n0 ≤ b2 := Nat.le_trans Z0 sz_b2
  obtain ⟨b2_0, gb2_0⟩ : ∃ z, z = b2 + 1 + 0 := ⟨_, rfl⟩
  obtain ⟨b2_1, gb2_1⟩ : ∃ z, z = b2 + 1 + 1 := ⟨_, rfl⟩
  obtain ⟨b2_2, gb2_2⟩ : ∃ z, z = b2 + 1 + 2 := ⟨_, rfl⟩
  replace A2 : Arv Z h2 b2 cA2 (.array .boolean) (3 : Int32) ([b2_0, b2_1, b2_2].map .ref) .null := by subst gb2_0 gb2_1 gb2_2; exact A2
  have V_b2 : Av Z h2 b2 (.array .boolean) [(.ref b2_0), (.ref b2_1), (.ref b2_2)] := Av.ofArv A2 rfl
  have V_b2_0 : Av Z h2 b2_0 .boolean [(.int (0 : Int32)), (.int (0 : Int32)), (.int (0 : Int32)), (.int (0 : Int32)), (.int (0 : Int32))] := Av.new (IN2 0 b2_0 (by subst gb2_0 gb2_1 gb2_2; rfl)).1 rfl
  have sz_b2_0 : h0.size ≤ b2_0 := Nat.le_trans sz_b2 (own_le gb2_0)
  have g_b2_0 : n0 ≤ b2_0 := Nat.le_trans Z0 sz_b2_0
  have V_b2_1 : Av Z h2 b2_1 .boolean [(.int (0 : Int32)), (.int (0 : Int32)), (.int (0 : Int32)), (.int (0 : Int32)), (.int (0 : Int32))] := Av.new (IN2 1 b2_1 (by subst gb2_0 gb2_1 gb2_2; rfl)).1 rfl
  have sz_b2_1 : h0.size ≤ b2_1 := Nat.le_trans sz_b2 (own_le gb2_1)
  have g_b2_1 : n0 ≤ b2_1 := Nat.le_trans Z0 sz_b2_1
  have V_b2_2 : Av Z h2 b2_2 .boolean [(.int (0 : Int32)), (.int (0 : Int32)), (.int (0 : Int32)), (.int (0 : Int32)), (.int (0 : Int32))] := Av.new (IN2 2 b2_2 (by subst gb2_0 gb2_1 gb2_2; rfl)).1 rfl
  have sz_b2_2 : h0.size ≤ b2_2 := Nat.le_trans sz_b2 (own_le gb2_2)
  have g_b2_2 : n0 ≤ b2_2 := Nat.le_trans Z0 sz_b2_2
  refine k_go K st2 ?_
  show Go _ _ _ _ _ _ _ (T2.setTop (mkF m 11 #[.val (.ref a1), .val (.ref a2), .unset, .unset, .unset, .unset] [(.ref b2), (.ref a1)]))
  refine k_putF K X2 hx hby hZ hown (host := "") (Or.inl (hw _ (List.mem_of_getElem? (i := 38) rfl))) Via.refl e2 (F_occupied_a1.ext E2) (E_a1.ext E2) (Or.inr ⟨(hw _ (List.mem_of_getElem? (i := 39) rfl)), rfl, hnm⟩) (hw _ (List.mem_of_getElem? (i := 29) rfl)) (ty := (.array (.array .boolean))) (by decide) rfl rfl d_prog_6_1_11 rfl fun T3 h3 X3 e3 W3 => ?_
  have Fw3 := (F_occupied_a1.ext E2).same W3
  have N3 := Fr.snoc X3 N0 g_a1
  refine m_aloadN K X3.here hx hby d_prog_6_1_14 rfl rfl rfl ?_
  refine m_iconst K X3.here hx hby (3 : Int32) d_prog_6_1_15 rfl rfl ?_
  refine k_newP K X3 hx hby hZ 3 3 (hw _ (List.mem_of_getElem? (i := 37) rfl)) e3 d_prog_6_1_16 rfl (by decide) rfl (by decide) (by decide) (by decide) (by decide) fun T4 h4 b4 X4 e4 E4 g4 V_b4 => ?_
  have sz_b4 : h0.size ≤ b4 := Nat.le_trans (Nat.le_trans (Nat.le_trans (Nat.le_refl _) E2.1) (Keep.of_wr W3).1) (Nat.le_of_eq g4.symm)
  have g_b4 : n0 ≤ b4 := Nat.le_trans Z0 sz_b4
  replace V_b4 : Av Z h4 b4 .boolean [(.int (0 : Int32)), (.int (0 : Int32)), (.int (0 : Int32))] := V_b4
  refine k_putF K X4 hx hby hZ hown (host := "") (Or.inl (hw _ (List.mem_of_getElem? (i := 40) rfl))) Via.refl e4 (((F_uncovered_a1.ext E2).other W3 (Or.inr (slot_ne (Or.inr (hw _ (List.mem_of_getElem? (i := 41) rfl))) (Or.inr (hw _ (List.mem_of_getElem? (i := 39) rfl))) (by decide) (t := (.array .boolean)) (t' := (.array (.array .boolean))) (by decide) (by decide)))).ext E4) (((E_a1.ext E2).wr W3).ext E4) (Or.inr ⟨(hw _ (List.mem_of_getElem? (i := 41) rfl)), rfl, hnm⟩) (hw _ (List.mem_of_getElem? (i := 29) rfl)) (ty := (.array .boolean)) (by decide) rfl rfl d_prog_6_1_18 rfl fun T5 h5 X5 e5 W5 => ?_
  have Fw5 := (((F_uncovered_a1.ext E2).other W3 (Or.inr (slot_ne (Or.inr (hw _ (List.mem_of_getElem? (i := 41) rfl))) (Or.inr (hw _ (List.mem_of_getElem? (i := 39) rfl))) (by decide) (t := (.array .boolean)) (t' := (.array (.array .boolean))) (by decide) (by decide)))).ext E4).same W5
  have N5 := Fr.snoc X5 N3 g_a1
  refine m_aloadN K X5.here hx hby d_prog_6_1_21 rfl rfl rfl ?_
  refine m_aloadN K X5.here hx hby d_prog_6_1_22 rfl rfl rfl ?_
  refine k_putF K X5 hx hby hZ hown (host := "") (Or.inl (hw _ (List.mem_of_getElem? (i := 42) rfl))) Via.refl e5 ((((F_icons_a1.ext E2).other W3 (Or.inr (slot_ne (Or.inr (hw _ (List.mem_of_getElem? (i := 43) rfl))) (Or.inr (hw _ (List.mem_of_getElem? (i := 39) rfl))) (by decide) (t := (.object "java/util/List")) (t' := (.array (.array .boolean))) (by decide) (by decide)))).ext E4).other W5 (Or.inr (slot_ne (Or.inr (hw _ (List.mem_of_getElem? (i := 43) rfl))) (Or.inr (hw _ (List.mem_of_getElem? (i := 41) rfl))) (by decide) (t := (.object "java/util/List")) (t' := (.array .boolean)) (by decide) (by decide)))) ((((E_a1.ext E2).wr W3).ext E4).wr W5) (Or.inr ⟨(hw _ (List.mem_of_getElem? (i := 43) rfl)), rfl, hnm⟩) (hw _ (List.mem_of_getElem? (i := 29) rfl)) (ty := (.object "java/util/List")) (by decide) rfl rfl d_prog_6_1_23 rfl fun T6 h6 X6 e6 W6 => ?_
  have Fw6 := ((((F_icons_a1.ext E2).other W3 (Or.inr (slot_ne (Or.inr (hw _ (List.mem_of_getElem? (i := 43) rfl))) (Or.inr (hw _ (List.mem_of_getElem? (i := 39) rfl))) (by decide) (t := (.object "java/util/List")) (t' := (.array (.array .boolean))) (by decide) (by decide)))).ext E4).other W5 (Or.inr (slot_ne (Or.inr (hw _ (List.mem_of_getElem? (i := 43) rfl))) (Or.inr (hw _ (List.mem_of_getElem? (i := 41) rfl))) (by decide) (t := (.object "java/util/List")) (t' := (.array .boolean)) (by decide) (by decide)))).same W6
  have N6 := Fr.snoc X6 N5 g_a1
  refine m_aloadN K X6.here hx hby d_prog_6_1_26 rfl rfl rfl ?_
  refine k_getF K X6 hx hby hZ hown (host := "") (Or.inl (hw _ (List.mem_of_getElem? (i := 38) rfl))) Via.refl e6 (((Fw3.ext E4).other W5 (Or.inr (slot_ne (Or.inr (hw _ (List.mem_of_getElem? (i := 39) rfl))) (Or.inr (hw _ (List.mem_of_getElem? (i := 41) rfl))) (by decide) (t := (.array (.array .boolean))) (t' := (.array .boolean)) (by decide) (by decide)))).other W6 (Or.inr (slot_ne (Or.inr (hw _ (List.mem_of_getElem? (i := 39) rfl))) (Or.inr (hw _ (List.mem_of_getElem? (i := 43) rfl))) (by decide) (t := (.array (.array .boolean))) (t' := (.object "java/util/List")) (by decide) (by decide)))) d_prog_6_1_27 rfl fun T7 X7 e7 => ?_
  refine m_astoreN K X7.here hx hby #[.val (.ref a1), .val (.ref a2), .val (.ref b2), .unset, .unset, .unset] d_prog_6_1_30 rfl rfl rfl ?_
  refine m_aloadN K X7.here hx hby d_prog_6_1_31 rfl rfl rfl ?_
  refine k_len K X7 hx hby hZ (3 : Int32) e7 ((((V_b2.other W3 (Ne.symm (Nat.ne_of_lt (Nat.lt_of_lt_of_le (Nat.lt_of_lt_of_le E_a1.lt (Nat.le_refl _)) (Nat.le_of_eq g2.symm))))).ext E4).other W5 (Ne.symm (Nat.ne_of_lt (Nat.lt_of_lt_of_le (Nat.lt_of_lt_of_le E_a1.lt (Nat.le_refl _)) (Nat.le_of_eq g2.symm))))).other W6 (Ne.symm (Nat.ne_of_lt (Nat.lt_of_lt_of_le (Nat.lt_of_lt_of_le E_a1.lt (Nat.le_refl _)) (Nat.le_of_eq g2.symm))))) rfl d_prog_6_1_32 rfl ?_
  refine m_istoreN K X7.here hx hby #[.val (.ref a1), .val (.ref a2), .val (.ref b2), .val (.int (3 : Int32)), .unset, .unset] d_prog_6_1_33 rfl rfl ?_
  refine m_iconst K X7.here hx hby (0 : Int32) d_prog_6_1_34 rfl rfl ?_
  refine m_istore K X7.here hx hby #[.val (.ref a1), .val (.ref a2), .val (.ref b2), .val (.int (3 : Int32)), .val (.int (0 : Int32)), .unset] d_prog_6_1_35 rfl rfl ?_
  refine m_iload K X7.here hx hby d_prog_6_1_37 rfl rfl ?_
  refine m_iloadN K X7.here hx hby d_prog_6_1_39 rfl rfl ?_
  refine m_icmpN K X7.here hx hby (q := 43) d_prog_6_1_40 (tlt (by decide : (0 : Int32) < (3 : Int32))).2.1 rfl ?_
  refine m_aloadN K X7.here hx hby d_prog_6_1_43 rfl rfl rfl ?_
  refine m_iload K X7.here hx hby d_prog_6_1_44 rfl rfl ?_
  refine k_ldR K X7 hx hby hZ e7 rfl ((((V_b2.other W3 (Ne.symm (Nat.ne_of_lt (Nat.lt_of_lt_of_le (Nat.lt_of_lt_of_le E_a1.lt (Nat.le_refl _)) (Nat.le_of_eq g2.symm))))).ext E4).other W5 (Ne.symm (Nat.ne_of_lt (Nat.lt_of_lt_of_le (Nat.lt_of_lt_of_le E_a1.lt (Nat.le_refl _)) (Nat.le_of_eq g2.symm))))).other W6 (Ne.symm (Nat.ne_of_lt (Nat.lt_of_lt_of_le (Nat.lt_of_lt_of_le E_a1.lt (Nat.le_refl _)) (Nat.le_of_eq g2.symm))))) (v := (.ref b2_0)) (by decide) rfl d_prog_6_1_46 rfl ?_
  refine m_astore K X7.here hx hby #[.val (.ref a1), .val (.ref a2), .val (.ref b2), .val (.int (3 : Int32)), .val (.int (0 : Int32)), .val (.ref b2_0)] d_prog_6_1_47 rfl rfl rfl ?_
  refine m_aload K X7.here hx hby d_prog_6_1_49 rfl rfl rfl ?_
  refine m_iconst K X7.here hx hby (1 : Int32) d_prog_6_1_51 rfl rfl ?_
  refine k_callS K X7 hx hby hZ [(.ref b2_0), (.int (1 : Int32))] [] hown (hw _ (List.mem_of_getElem? (i := 44) rfl)) (hw _ (List.mem_of_getElem? (i := 45) rfl)) (hw _ (List.mem_of_getElem? (i := 46) rfl)) (hw _ (List.mem_of_getElem? (i := 47) rfl)) (c6 l Z a0 hw b2_0 h6 n0 (Nat.le_trans Z0 (Nat.le_trans (Nat.le_trans (Nat.le_trans (Nat.le_trans (Nat.le_trans (Nat.le_refl _) E2.1) (Keep.of_wr W3).1) E4.1) (Keep.of_wr W5).1) (Keep.of_wr W6).1)) ((((V_b2_0.other W3 (Ne.symm (Nat.ne_of_lt (Nat.lt_of_lt_of_le (Nat.lt_of_lt_of_le E_a1.lt (Nat.le_refl _)) (own_ge g2 gb2_0))))).ext E4).other W5 (Ne.symm (Nat.ne_of_lt (Nat.lt_of_lt_of_le (Nat.lt_of_lt_of_le E_a1.lt (Nat.le_refl _)) (own_ge g2 gb2_0))))).other W6 (Ne.symm (Nat.ne_of_lt (Nat.lt_of_lt_of_le (Nat.lt_of_lt_of_le E_a1.lt (Nat.le_refl _)) (own_ge g2 gb2_0))))) g_b2_0) e7 rfl rfl pd_1 rfl d_prog_6_1_52 (by rw [hml]; rfl) rfl (by decide) (by decide) (Nat.le_of_ble_eq_true rfl) (by decide) (by decide) fun v8 T8 L8 X8 q8 => ?_
  obtain ⟨rfl, Nq8, K8, Ap8_0⟩ := q8
  have N8 := Fr.app N6 Nq8
  refine k_none K ?_
  refine m_iinc K X8.here hx hby #[.val (.ref a1), .val (.ref a2), .val (.ref b2), .val (.int (3 : Int32)), .val (.int (1 : Int32)), .val (.ref b2_0)] d_prog_6_1_55 rfl rfl rfl ?_
  refine m_goto K X8.here hx hby (q := 37) d_prog_6_1_58 (by decide) rfl ?_
  refine m_iload K X8.here hx hby d_prog_6_1_37 rfl rfl ?_
  refine m_iloadN K X8.here hx hby d_prog_6_1_39 rfl rfl ?_
  refine m_icmpN K X8.here hx hby (q := 43) d_prog_6_1_40 (tlt (by decide : (1 : Int32) < (3 : Int32))).2.1 rfl ?_
  refine m_aloadN K X8.here hx hby d_prog_6_1_43 rfl rfl rfl ?_
  refine m_iload K X8.here hx hby d_prog_6_1_44 rfl rfl ?_
  refine k_ldR K X8 hx hby hZ rfl rfl (((((V_b2.other W3 (Ne.symm (Nat.ne_of_lt (Nat.lt_of_lt_of_le (Nat.lt_of_lt_of_le E_a1.lt (Nat.le_refl _)) (Nat.le_of_eq g2.symm))))).ext E4).other W5 (Ne.symm (Nat.ne_of_lt (Nat.lt_of_lt_of_le (Nat.lt_of_lt_of_le E_a1.lt (Nat.le_refl _)) (Nat.le_of_eq g2.symm))))).other W6 (Ne.symm (Nat.ne_of_lt (Nat.lt_of_lt_of_le (Nat.lt_of_lt_of_le E_a1.lt (Nat.le_refl _)) (Nat.le_of_eq g2.symm))))).keep K8 (ninS (own_ne gb2_0) nin0)) (v := (.ref b2_1)) (by decide) rfl d_prog_6_1_46 rfl ?_
  refine m_astore K X8.here hx hby #[.val (.ref a1), .val (.ref a2), .val (.ref b2), .val (.int (3 : Int32)), .val (.int (1 : Int32)), .val (.ref b2_1)] d_prog_6_1_47 rfl rfl rfl ?_
  refine m_aload K X8.here hx hby d_prog_6_1_49 rfl rfl rfl ?_
  refine m_iconst K X8.here hx hby (1 : Int32) d_prog_6_1_51 rfl rfl ?_
  refine k_callS K X8 hx hby hZ [(.ref b2_1), (.int (1 : Int32))] [] hown (hw _ (List.mem_of_getElem? (i := 44) rfl)) (hw _ (List.mem_of_getElem? (i := 45) rfl)) (hw _ (List.mem_of_getElem? (i := 46) rfl)) (hw _ (List.mem_of_getElem? (i := 47) rfl)) (c6 l Z a0 hw b2_1 T8.heap n0 (Nat.le_trans Z0 (Nat.le_trans (Nat.le_trans (Nat.le_trans (Nat.le_trans (Nat.le_trans (Nat.le_trans (Nat.le_refl _) E2.1) (Keep.of_wr W3).1) E4.1) (Keep.of_wr W5).1) (Keep.of_wr W6).1) K8.1)) (((((V_b2_1.other W3 (Ne.symm (Nat.ne_of_lt (Nat.lt_of_lt_of_le (Nat.lt_of_lt_of_le E_a1.lt (Nat.le_refl _)) (own_ge g2 gb2_1))))).ext E4).other W5 (Ne.symm (Nat.ne_of_lt (Nat.lt_of_lt_of_le (Nat.lt_of_lt_of_le E_a1.lt (Nat.le_refl _)) (own_ge g2 gb2_1))))).other W6 (Ne.symm (Nat.ne_of_lt (Nat.lt_of_lt_of_le (Nat.lt_of_lt_of_le E_a1.lt (Nat.le_refl _)) (own_ge g2 gb2_1))))).keep K8 (ninS (Ne.symm (own_ne2 gb2_0 gb2_1 (by decide))) nin0)) g_b2_1) rfl rfl rfl pd_1 rfl d_prog_6_1_52 (by rw [hml]; rfl) rfl (by decide) (by decide) (Nat.le_of_ble_eq_true rfl) (by decide) (by decide) fun v9 T9 L9 X9 q9 => ?_
  obtain ⟨rfl, Nq9, K9, Ap9_0⟩ := q9
  have N9 := Fr.app N8 Nq9
  refine k_none K ?_
  refine m_iinc K X9.here hx hby #[.val (.ref a1), .val (.ref a2), .val (.ref b2), .val (.int (3 : Int32)), .val (.int (2 : Int32)), .val (.ref b2_1)] d_prog_6_1_55 rfl rfl rfl ?_
  refine m_goto K X9.here hx hby (q := 37) d_prog_6_1_58 (by decide) rfl ?_
  refine m_iload K X9.here hx hby d_prog_6_1_37 rfl rfl ?_
  refine m_iloadN K X9.here hx hby d_prog_6_1_39 rfl rfl ?_
  refine m_icmpN K X9.here hx hby (q := 43) d_prog_6_1_40 (tlt (by decide : (2 : Int32) < (3 : Int32))).2.1 rfl ?_
  refine m_aloadN K X9.here hx hby d_prog_6_1_43 rfl rfl rfl ?_
  refine m_iload K X9.here hx hby d_prog_6_1_44 rfl rfl ?_
  refine k_ldR K X9 hx hby hZ rfl rfl ((((((V_b2.other W3 (Ne.symm (Nat.ne_of_lt (Nat.lt_of_lt_of_le (Nat.lt_of_lt_of_le E_a1.lt (Nat.le_refl _)) (Nat.le_of_eq g2.symm))))).ext E4).other W5 (Ne.symm (Nat.ne_of_lt (Nat.lt_of_lt_of_le (Nat.lt_of_lt_of_le E_a1.lt (Nat.le_refl _)) (Nat.le_of_eq g2.symm))))).other W6 (Ne.symm (Nat.ne_of_lt (Nat.lt_of_lt_of_le (Nat.lt_of_lt_of_le E_a1.lt (Nat.le_refl _)) (Nat.le_of_eq g2.symm))))).keep K8 (ninS (own_ne gb2_0) nin0)).keep K9 (ninS (own_ne gb2_1) nin0)) (v := (.ref b2_2)) (by decide) rfl d_prog_6_1_46 rfl ?_
  refine m_astore K X9.here hx hby #[.val (.ref a1), .val (.ref a2), .val (.ref b2), .val (.int (3 : Int32)), .val (.int (2 : Int32)), .val (.ref b2_2)] d_prog_6_1_47 rfl rfl rfl ?_
  refine m_aload K X9.here hx hby d_prog_6_1_49 rfl rfl rfl ?_
  refine m_iconst K X9.here hx hby (1 : Int32) d_prog_6_1_51 rfl rfl ?_
  refine k_callS K X9 hx hby hZ [(.ref b2_2), (.int (1 : Int32))] [] hown (hw _ (List.mem_of_getElem? (i := 44) rfl)) (hw _ (List.mem_of_getElem? (i := 45) rfl)) (hw _ (List.mem_of_getElem? (i := 46) rfl)) (hw _ (List.mem_of_getElem? (i := 47) rfl)) (c6 l Z a0 hw b2_2 T9.heap n0 (Nat.le_trans Z0 (Nat.le_trans (Nat.le_trans (Nat.le_trans (Nat.le_trans (Nat.le_trans (Nat.le_trans (Nat.le_trans (Nat.le_refl _) E2.1) (Keep.of_wr W3).1) E4.1) (Keep.of_wr W5).1) (Keep.of_wr W6).1) K8.1) K9.1)) ((((((V_b2_2.other W3 (Ne.symm (Nat.ne_of_lt (Nat.lt_of_lt_of_le (Nat.lt_of_lt_of_le E_a1.lt (Nat.le_refl _)) (own_ge g2 gb2_2))))).ext E4).other W5 (Ne.symm (Nat.ne_of_lt (Nat.lt_of_lt_of_le (Nat.lt_of_lt_of_le E_a1.lt (Nat.le_refl _)) (own_ge g2 gb2_2))))).other W6 (Ne.symm (Nat.ne_of_lt (Nat.lt_of_lt_of_le (Nat.lt_of_lt_of_le E_a1.lt (Nat.le_refl _)) (own_ge g2 gb2_2))))).keep K8 (ninS (Ne.symm (own_ne2 gb2_0 gb2_2 (by decide))) nin0)).keep K9 (ninS (Ne.symm (own_ne2 gb2_1 gb2_2 (by decide))) nin0)) g_b2_2) rfl rfl rfl pd_1 rfl d_prog_6_1_52 (by rw [hml]; rfl) rfl (by decide) (by decide) (Nat.le_of_ble_eq_true rfl) (by decide) (by decide) fun v10 T10 L10 X10 q10 => ?_
  obtain ⟨rfl, Nq10, K10, Ap10_0⟩ := q10
  have N10 := Fr.app N9 Nq10
  refine k_none K ?_
  refine m_iinc K X10.here hx hby #[.val (.ref a1), .val (.ref a2), .val (.ref b2), .val (.int (3 : Int32)), .val (.int (3 : Int32)), .val (.ref b2_2)] d_prog_6_1_55 rfl rfl rfl ?_
  refine m_goto K X10.here hx hby (q := 37) d_prog_6_1_58 (by decide) rfl ?_
  refine m_iload K X10.here hx hby d_prog_6_1_37 rfl rfl ?_
  refine m_iloadN K X10.here hx hby d_prog_6_1_39 rfl rfl ?_
  refine m_icmpY K X10.here hx hby (q := 61) d_prog_6_1_40 (flt (by decide : ¬ ((3 : Int32) < (3 : Int32)))).2.1 (by decide) rfl ?_
  exact Go.retV X10 hx hby hlk hret d_prog_6_1_61 (by decide) (by decide) (⟨b2, b2_0, b2_1, b2_2, b4, rfl, N10, (((((((((Keep.refl h0 [a1]).ext E2).wr W3 (Or.inl (by simp))).ext E4).wr W5 (Or.inl (by simp))).wr W6 (Or.inl (by simp))).trans K8 (allS (Or.inr sz_b2_0) all0)).trans K9 (allS (Or.inr sz_b2_1) all0)).trans K10 (allS (Or.inr sz_b2_2) all0)), sz_b2, sz_b2_0, sz_b2_1, sz_b2_2, sz_b4, (own_ne gb2_0), (own_ne gb2_1), (own_ne gb2_2), (Nat.ne_of_lt (Nat.lt_of_lt_of_le (Nat.lt_of_lt_of_le V_b2.lt (Nat.le_trans (Nat.le_refl _) (Keep.of_wr W3).1)) (Nat.le_of_eq g4.symm))), (own_ne2 gb2_0 gb2_1 (by decide)), (own_ne2 gb2_0 gb2_2 (by decide)), (Nat.ne_of_lt (Nat.lt_of_lt_of_le (Nat.lt_of_lt_of_le V_b2_0.lt (Nat.le_trans (Nat.le_refl _) (Keep.of_wr W3).1)) (Nat.le_of_eq g4.symm))), (own_ne2 gb2_1 gb2_2 (by decide)), (Nat.ne_of_lt (Nat.lt_of_lt_of_le (Nat.lt_of_lt_of_le V_b2_1.lt (Nat.le_trans (Nat.le_refl _) (Keep.of_wr W3).1)) (Nat.le_of_eq g4.symm))), (Nat.ne_of_lt (Nat.lt_of_lt_of_le (Nat.lt_of_lt_of_le V_b2_2.lt (Nat.le_trans (Nat.le_refl _) (Keep.of_wr W3).1)) (Nat.le_of_eq g4.symm))), ((((((Fw3.ext E4).other W5 (Or.inr (slot_ne (Or.inr (hw _ (List.mem_of_getElem? (i := 39) rfl))) (Or.inr (hw _ (List.mem_of_getElem? (i := 41) rfl))) (by decide) (t := (.array (.array .boolean))) (t' := (.array .boolean)) (by decide) (by decide)))).other W6 (Or.inr (slot_ne (Or.inr (hw _ (List.mem_of_getElem? (i := 39) rfl))) (Or.inr (hw _ (List.mem_of_getElem? (i := 43) rfl))) (by decide) (t := (.array (.array .boolean))) (t' := (.object "java/util/List")) (by decide) (by decide)))).keep K8 (ninS (Nat.ne_of_lt (Nat.lt_of_lt_of_le (Nat.lt_of_lt_of_le E_a1.lt (Nat.le_refl _)) (own_ge g2 gb2_0))) nin0)).keep K9 (ninS (Nat.ne_of_lt (Nat.lt_of_lt_of_le (Nat.lt_of_lt_of_le E_a1.lt (Nat.le_refl _)) (own_ge g2 gb2_1))) nin0)).keep K10 (ninS (Nat.ne_of_lt (Nat.lt_of_lt_of_le (Nat.lt_of_lt_of_le E_a1.lt (Nat.le_refl _)) (own_ge g2 gb2_2))) nin0)), ((((Fw5.other W6 (Or.inr (slot_ne (Or.inr (hw _ (List.mem_of_getElem? (i := 41) rfl))) (Or.inr (hw _ (List.mem_of_getElem? (i := 43) rfl))) (by decide) (t := (.array .boolean)) (t' := (.object "java/util/List")) (by decide) (by decide)))).keep K8 (ninS (Nat.ne_of_lt (Nat.lt_of_lt_of_le (Nat.lt_of_lt_of_le E_a1.lt (Nat.le_refl _)) (own_ge g2 gb2_0))) nin0)).keep K9 (ninS (Nat.ne_of_lt (Nat.lt_of_lt_of_le (Nat.lt_of_lt_of_le E_a1.lt (Nat.le_refl _)) (own_ge g2 gb2_1))) nin0)).keep K10 (ninS (Nat.ne_of_lt (Nat.lt_of_lt_of_le (Nat.lt_of_lt_of_le E_a1.lt (Nat.le_refl _)) (own_ge g2 gb2_2))) nin0)), (((((((V_b2.other W3 (Ne.symm (Nat.ne_of_lt (Nat.lt_of_lt_of_le (Nat.lt_of_lt_of_le E_a1.lt (Nat.le_refl _)) (Nat.le_of_eq g2.symm))))).ext E4).other W5 (Ne.symm (Nat.ne_of_lt (Nat.lt_of_lt_of_le (Nat.lt_of_lt_of_le E_a1.lt (Nat.le_refl _)) (Nat.le_of_eq g2.symm))))).other W6 (Ne.symm (Nat.ne_of_lt (Nat.lt_of_lt_of_le (Nat.lt_of_lt_of_le E_a1.lt (Nat.le_refl _)) (Nat.le_of_eq g2.symm))))).keep K8 (ninS (own_ne gb2_0) nin0)).keep K9 (ninS (own_ne gb2_1) nin0)).keep K10 (ninS (own_ne gb2_2) nin0)), ((Ap8_0.keep K9 (ninS (own_ne2 gb2_0 gb2_1 (by decide)) nin0)).keep K10 (ninS (own_ne2 gb2_0 gb2_2 (by decide)) nin0)), (Ap9_0.keep K10 (ninS (own_ne2 gb2_1 gb2_2 (by decide)) nin0)), Ap10_0, (((((V_b4.other W5 (Ne.symm (Nat.ne_of_lt (Nat.lt_of_lt_of_le (Nat.lt_of_lt_of_le E_a1.lt (Nat.le_trans (Nat.le_trans (Nat.le_refl _) E2.1) (Keep.of_wr W3).1)) (Nat.le_of_eq g4.symm))))).other W6 (Ne.symm (Nat.ne_of_lt (Nat.lt_of_lt_of_le (Nat.lt_of_lt_of_le E_a1.lt (Nat.le_trans (Nat.le_trans (Nat.le_refl _) E2.1) (Keep.of_wr W3).1)) (Nat.le_of_eq g4.symm))))).keep K8 (ninS (Ne.symm (Nat.ne_of_lt (Nat.lt_of_lt_of_le (Nat.lt_of_lt_of_le V_b2_0.lt (Nat.le_trans (Nat.le_refl _) (Keep.of_wr W3).1)) (Nat.le_of_eq g4.symm)))) nin0)).keep K9 (ninS (Ne.symm (Nat.ne_of_lt (Nat.lt_of_lt_of_le (Nat.lt_of_lt_of_le V_b2_1.lt (Nat.le_trans (Nat.le_refl _) (Keep.of_wr W3).1)) (Nat.le_of_eq g4.symm)))) nin0)).keep K10 (ninS (Ne.symm (Nat.ne_of_lt (Nat.lt_of_lt_of_le (Nat.lt_of_lt_of_le V_b2_2.lt (Nat.le_trans (Nat.le_refl _) (Keep.of_wr W3).1)) (Nat.le_of_eq g4.symm)))) nin0))⟩)
def cx (m i : Nat) : Int32 := if i < m then 0 else 1
def sx (m i : Nat) : Int32 := if m = 5 then (if i = 3 then 1 else 0) else cx (m - 1) i
theorem d_prog_6_10_0 : decode prog_6_method_10_code 0 = .ok (.iconst 0, 1) := by decide +kernel
theorem d_prog_6_10_1 : decode prog_6_method_10_code 1 = .ok (.istore_n 2, 1) := by decide +kernel
theorem d_prog_6_10_2 : decode prog_6_method_10_code 2 = .ok (.aload_n 0, 1) := by decide +kernel
theorem d_prog_6_10_3 : decode prog_6_method_10_code 3 = .ok (.getfield 11, 3) := by decide +kernel
theorem d_prog_6_10_6 : decode prog_6_method_10_code 6 = .ok (.iload_n 1, 1) := by decide +kernel
theorem d_prog_6_10_7 : decode prog_6_method_10_code 7 = .ok (.aaload, 1) := by decide +kernel
theorem d_prog_6_10_8 : decode prog_6_method_10_code 8 = .ok (.iload_n 2, 1) := by decide +kernel
theorem d_prog_6_10_9 : decode prog_6_method_10_code 9 = .ok (.baload, 1) := by decide +kernel
theorem d_prog_6_10_10 : decode prog_6_method_10_code 10 = .ok (.ifCond .ne 9, 3) := by decide +kernel
theorem d_prog_6_10_19 : decode prog_6_method_10_code 19 = .ok (.aload_n 0, 1) := by decide +kernel
theorem d_prog_6_10_20 : decode prog_6_method_10_code 20 = .ok (.getfield 11, 3) := by decide +kernel
theorem d_prog_6_10_23 : decode prog_6_method_10_code 23 = .ok (.iload_n 1, 1) := by decide +kernel
theorem d_prog_6_10_24 : decode prog_6_method_10_code 24 = .ok (.aaload, 1) := by decide +kernel
theorem d_prog_6_10_25 : decode prog_6_method_10_code 25 = .ok (.iload_n 2, 1) := by decide +kernel
theorem d_prog_6_10_26 : decode prog_6_method_10_code 26 = .ok (.iconst 0, 1) := by decide +kernel
theorem d_prog_6_10_27 : decode prog_6_method_10_code 27 = .ok (.bastore, 1) := by decide +kernel
theorem d_prog_6_10_28 : decode prog_6_method_10_code 28 = .ok (.aload_n 0, 1) := by decide +kernel
theorem d_prog_6_10_29 : decode prog_6_method_10_code 29 = .ok (.getfield 14, 3) := by decide +kernel
theorem d_prog_6_10_32 : decode prog_6_method_10_code 32 = .ok (.iload_n 1, 1) := by decide +kernel
theorem d_prog_6_10_33 : decode prog_6_method_10_code 33 = .ok (.dup2, 1) := by decide +kernel
theorem d_prog_6_10_34 : decode prog_6_method_10_code 34 = .ok (.baload, 1) := by decide +kernel
theorem d_prog_6_10_35 : decode prog_6_method_10_code 35 = .ok (.iload_n 2, 1) := by decide +kernel
theorem d_prog_6_10_36 : decode prog_6_method_10_code 36 = .ok (.iconst 4, 1) := by decide +kernel
theorem d_prog_6_10_37 : decode prog_6_method_10_code 37 = .ok (.if_icmp .ne 7, 3) := by decide +kernel
theorem d_prog_6_10_44 : decode prog_6_method_10_code 44 = .ok (.iconst 0, 1) := by decide +kernel
theorem d_prog_6_10_45 : decode prog_6_method_10_code 45 = .ok (.ior, 1) := by decide +kernel
theorem d_prog_6_10_46 : decode prog_6_method_10_code 46 = .ok (.bastore, 1) := by decide +kernel
theorem d_prog_6_10_47 : decode prog_6_method_10_code 47 = .ok (.return_, 1) := by decide +kernel
theorem ef8_0_0 (m : MethodId) (x0 : Addr) (x1 : Int32) : entryFrame m #[(.ref x0), (.int x1)] 3 = mkF m 0 #[.val (.ref x0), .val (.int x1), .unset] [] := by first | (simp [entryFrame, mkF, argsToLocals, Value.category]; done) | rfl
set_option maxRecDepth 65536 in
set_option maxHeartbeats 40000000 in
theorem c8_0_0 (l : Launch) (Z : State) (a0 : Array Value) (hw : ∀ d ∈ tables_1, d.before a0 Z = true) (a1 : Addr) (bo : Addr) (bu : Addr) (x0 : Addr) (x1 : Addr) (x2 : Addr) (u0 : Int32) (u1 : Int32) (u2 : Int32) (h0 : Heap) (n0 : Nat) (Z0 : n0 ≤ h0.size) (E_a1 : Exa Z h0 a1 "com/example/craterworks/craterworks/SharesStation") (F_occupied_a1 : Fld Z h0 a1 "com/example/craterworks/craterworks/SharesStation" "occupied" "[[Z" (.ref bo)) (F_uncovered_a1 : Fld Z h0 a1 "com/example/craterworks/craterworks/SharesStation" "uncovered" "[Z" (.ref bu)) (A_bo : Av Z h0 bo (.array .boolean) [(.ref x0), (.ref x1), (.ref x2)]) (A_x0 : Av Z h0 x0 .boolean [(.int (1 : Int32)), (.int (1 : Int32)), (.int (1 : Int32)), (.int (1 : Int32)), (.int (1 : Int32))]) (A_bu : Av Z h0 bu .boolean [(.int u0), (.int u1), (.int u2)]) (g_x0 : n0 ≤ x0) (g_bu : n0 ≤ bu) (ne_a1_x0 : a1 ≠ x0) (ne_a1_bu : a1 ≠ bu) (ne_bo_x0 : bo ≠ x0) (ne_bo_bu : bo ≠ bu) (ne_x0_bu : x0 ≠ bu) :
    Con l Z (⟨"com/example/craterworks/craterworks/SharesStation", "take", "(I)V"⟩ : MethodName) prog_6_method_10_code 3 none ({ frames := 0, cells := 0, slots := 0, locals := 0 } : Room) [] #[(.ref a1), (.int (0 : Int32))] h0 (fun v h L => ∃ zu0 : Int32, ∃ zu1 : Int32, ∃ zu2 : Int32, v = none ∧ Fr n0 L ∧ Keep h0 h [x0, bu] ∧ Av Z h x0 .boolean [(.int (0 : Int32)), (.int (1 : Int32)), (.int (1 : Int32)), (.int (1 : Int32)), (.int (1 : Int32))] ∧ Av Z h bu .boolean [(.int zu0), (.int zu1), (.int zu2)]) := by
  refine Con.of (plainFor_of_name pn_com_example_craterworks_craterworks_SharesStation) #[.val (.ref a1), .val (.int (0 : Int32)), .unset] (fun m => ef8_0_0 m a1 (0 : Int32)) ?_
  intro p e s m below meth c s₁ K hx hby hml hown hnm hret hlk hZ X0 e0
  have N0 := Fr.nil n0
  refine m_iconst K X0.here hx hby (0 : Int32) d_prog_6_10_0 rfl rfl ?_
  refine m_istoreN K X0.here hx hby #[.val (.ref a1), .val (.int (0 : Int32)), .val (.int (0 : Int32))] d_prog_6_10_1 rfl rfl ?_
  refine m_aloadN K X0.here hx hby d_prog_6_10_2 rfl rfl rfl ?_
  refine k_getF K X0 hx hby hZ hown (host := "") (Or.inl (hw _ (List.mem_of_getElem? (i := 38) rfl))) Via.refl e0 F_occupied_a1 d_prog_6_10_3 rfl fun T1 X1 e1 => ?_
  refine m_iloadN K X1.here hx hby d_prog_6_10_6 rfl rfl ?_
  refine k_ldR K X1 hx hby hZ e1 rfl A_bo (v := (.ref x0)) (by decide) rfl d_prog_6_10_7 rfl ?_
  refine m_iloadN K X1.here hx hby d_prog_6_10_8 rfl rfl ?_
  refine k_ldZ K X1 hx hby hZ e1 A_x0 (v := (.int (1 : Int32))) (by decide) rfl d_prog_6_10_9 rfl ?_
  refine m_ifY K X1.here hx hby (q := 19) d_prog_6_10_10 ((if0 _ _).trans (feq (by decide : ¬ ((1 : Int32) = (0 : Int32)))).2) (by decide) rfl ?_
  refine m_aloadN K X1.here hx hby d_prog_6_10_19 rfl rfl rfl ?_
  refine k_getF K X1 hx hby hZ hown (host := "") (Or.inl (hw _ (List.mem_of_getElem? (i := 38) rfl))) Via.refl e1 F_occupied_a1 d_prog_6_10_20 rfl fun T2 X2 e2 => ?_
  refine m_iloadN K X2.here hx hby d_prog_6_10_23 rfl rfl ?_
  refine k_ldR K X2 hx hby hZ e2 rfl A_bo (v := (.ref x0)) (by decide) rfl d_prog_6_10_24 rfl ?_
  refine m_iloadN K X2.here hx hby d_prog_6_10_25 rfl rfl ?_
  refine m_iconst K X2.here hx hby (0 : Int32) d_prog_6_10_26 rfl rfl ?_
  refine k_stZ K X2 hx hby hZ e2 A_x0 (by decide) (Nat.le_of_ble_eq_true rfl) d_prog_6_10_27 rfl fun T3 h3 X3 e3 W3 V3 => ?_
  replace V3 : Av Z h3 x0 .boolean [(.int (0 : Int32)), (.int (1 : Int32)), (.int (1 : Int32)), (.int (1 : Int32)), (.int (1 : Int32))] := V3
  have N3 := Fr.snoc X3 N0 g_x0
  refine m_aloadN K X3.here hx hby d_prog_6_10_28 rfl rfl rfl ?_
  refine k_getF K X3 hx hby hZ hown (host := "") (Or.inl (hw _ (List.mem_of_getElem? (i := 40) rfl))) Via.refl e3 (F_uncovered_a1.other W3 (Or.inl ne_a1_x0)) d_prog_6_10_29 rfl fun T4 X4 e4 => ?_
  refine m_iloadN K X4.here hx hby d_prog_6_10_32 rfl rfl ?_
  refine m_dup2 K X4.here hx hby d_prog_6_10_33 rfl rfl rfl ?_
  refine k_ldZ K X4 hx hby hZ e4 (A_bu.other W3 (Ne.symm ne_x0_bu)) (v := (.int u0)) (by decide) rfl d_prog_6_10_34 rfl ?_
  refine m_iloadN K X4.here hx hby d_prog_6_10_35 rfl rfl ?_
  refine m_iconst K X4.here hx hby (4 : Int32) d_prog_6_10_36 rfl rfl ?_
  refine m_icmpY K X4.here hx hby (q := 44) d_prog_6_10_37 (feq (by decide : ¬ ((0 : Int32) = (4 : Int32)))).2 (by decide) rfl ?_
  refine m_iconst K X4.here hx hby (0 : Int32) d_prog_6_10_44 rfl rfl ?_
  refine m_ior K X4.here hx hby (u0 ||| (0 : Int32)) d_prog_6_10_45 rfl rfl ?_
  refine k_stZ K X4 hx hby hZ e4 (A_bu.other W3 (Ne.symm ne_x0_bu)) (by decide) (Nat.le_of_ble_eq_true rfl) d_prog_6_10_46 rfl fun T5 h5 X5 e5 W5 V5 => ?_
  replace V5 : Av Z h5 bu .boolean [(.int (nar .boolean (u0 ||| (0 : Int32)))), (.int u1), (.int u2)] := V5
  have N5 := Fr.snoc X5 N3 g_bu
  exact Go.retV X5 hx hby hlk hret d_prog_6_10_47 (by decide) (by decide) (by rw [e5]; exact ⟨(nar .boolean (u0 ||| (0 : Int32))), u1, u2, rfl, N5, (((Keep.refl h0 [x0, bu]).wr W3 (Or.inl (by simp))).wr W5 (Or.inl (by simp))), (V3.other W5 ne_x0_bu), V5⟩)
theorem d_prog_6_10_13 : decode prog_6_method_10_code 13 = .ok (.iinc 2 1, 3) := by decide +kernel
theorem d_prog_6_10_16 : decode prog_6_method_10_code 16 = .ok (.goto (-14), 3) := by decide +kernel
theorem ef8_0_1 (m : MethodId) (x0 : Addr) (x1 : Int32) : entryFrame m #[(.ref x0), (.int x1)] 3 = mkF m 0 #[.val (.ref x0), .val (.int x1), .unset] [] := by first | (simp [entryFrame, mkF, argsToLocals, Value.category]; done) | rfl
set_option maxRecDepth 65536 in
set_option maxHeartbeats 40000000 in
theorem c8_0_1 (l : Launch) (Z : State) (a0 : Array Value) (hw : ∀ d ∈ tables_1, d.before a0 Z = true) (a1 : Addr) (bo : Addr) (bu : Addr) (x0 : Addr) (x1 : Addr) (x2 : Addr) (u0 : Int32) (u1 : Int32) (u2 : Int32) (h0 : Heap) (n0 : Nat) (Z0 : n0 ≤ h0.size) (E_a1 : Exa Z h0 a1 "com/example/craterworks/craterworks/SharesStation") (F_occupied_a1 : Fld Z h0 a1 "com/example/craterworks/craterworks/SharesStation" "occupied" "[[Z" (.ref bo)) (F_uncovered_a1 : Fld Z h0 a1 "com/example/craterworks/craterworks/SharesStation" "uncovered" "[Z" (.ref bu)) (A_bo : Av Z h0 bo (.array .boolean) [(.ref x0), (.ref x1), (.ref x2)]) (A_x0 : Av Z h0 x0 .boolean [(.int (0 : Int32)), (.int (1 : Int32)), (.int (1 : Int32)), (.int (1 : Int32)), (.int (1 : Int32))]) (A_bu : Av Z h0 bu .boolean [(.int u0), (.int u1), (.int u2)]) (g_x0 : n0 ≤ x0) (g_bu : n0 ≤ bu) (ne_a1_x0 : a1 ≠ x0) (ne_a1_bu : a1 ≠ bu) (ne_bo_x0 : bo ≠ x0) (ne_bo_bu : bo ≠ bu) (ne_x0_bu : x0 ≠ bu) :
    Con l Z (⟨"com/example/craterworks/craterworks/SharesStation", "take", "(I)V"⟩ : MethodName) prog_6_method_10_code 3 none ({ frames := 0, cells := 0, slots := 0, locals := 0 } : Room) [] #[(.ref a1), (.int (0 : Int32))] h0 (fun v h L => ∃ zu0 : Int32, ∃ zu1 : Int32, ∃ zu2 : Int32, v = none ∧ Fr n0 L ∧ Keep h0 h [x0, bu] ∧ Av Z h x0 .boolean [(.int (0 : Int32)), (.int (0 : Int32)), (.int (1 : Int32)), (.int (1 : Int32)), (.int (1 : Int32))] ∧ Av Z h bu .boolean [(.int zu0), (.int zu1), (.int zu2)]) := by
  refine Con.of (plainFor_of_name pn_com_example_craterworks_craterworks_SharesStation) #[.val (.ref a1), .val (.int (0 : Int32)), .unset] (fun m => ef8_0_1 m a1 (0 : Int32)) ?_
  intro p e s m below meth c s₁ K hx hby hml hown hnm hret hlk hZ X0 e0
  have N0 := Fr.nil n0
  refine m_iconst K X0.here hx hby (0 : Int32) d_prog_6_10_0 rfl rfl ?_
  refine m_istoreN K X0.here hx hby #[.val (.ref a1), .val (.int (0 : Int32)), .val (.int (0 : Int32))] d_prog_6_10_1 rfl rfl ?_
  refine m_aloadN K X0.here hx hby d_prog_6_10_2 rfl rfl rfl ?_
  refine k_getF K X0 hx hby hZ hown (host := "") (Or.inl (hw _ (List.mem_of_getElem? (i := 38) rfl))) Via.refl e0 F_occupied_a1 d_prog_6_10_3 rfl fun T1 X1 e1 => ?_
  refine m_iloadN K X1.here hx hby d_prog_6_10_6 rfl rfl ?_
  refine k_ldR K X1 hx hby hZ e1 rfl A_bo (v := (.ref x0)) (by decide) rfl d_prog_6_10_7 rfl ?_
  refine m_iloadN K X1.here hx hby d_prog_6_10_8 rfl rfl ?_
  refine k_ldZ K X1 hx hby hZ e1 A_x0 (v := (.int (0 : Int32))) (by decide) rfl d_prog_6_10_9 rfl ?_
  refine m_ifN K X1.here hx hby (q := 13) d_prog_6_10_10 ((if0 _ _).trans (teq (by decide : (0 : Int32) = (0 : Int32))).2) rfl ?_
  refine m_iinc K X1.here hx hby #[.val (.ref a1), .val (.int (0 : Int32)), .val (.int (1 : Int32))] d_prog_6_10_13 rfl rfl rfl ?_
  refine m_goto K X1.here hx hby (q := 2) d_prog_6_10_16 (by decide) rfl ?_
  refine m_aloadN K X1.here hx hby d_prog_6_10_2 rfl rfl rfl ?_
  refine k_getF K X1 hx hby hZ hown (host := "") (Or.inl (hw _ (List.mem_of_getElem? (i := 38) rfl))) Via.refl e1 F_occupied_a1 d_prog_6_10_3 rfl fun T2 X2 e2 => ?_
  refine m_iloadN K X2.here hx hby d_prog_6_10_6 rfl rfl ?_
  refine k_ldR K X2 hx hby hZ e2 rfl A_bo (v := (.ref x0)) (by decide) rfl d_prog_6_10_7 rfl ?_
  refine m_iloadN K X2.here hx hby d_prog_6_10_8 rfl rfl ?_
  refine k_ldZ K X2 hx hby hZ e2 A_x0 (v := (.int (1 : Int32))) (by decide) rfl d_prog_6_10_9 rfl ?_
  refine m_ifY K X2.here hx hby (q := 19) d_prog_6_10_10 ((if0 _ _).trans (feq (by decide : ¬ ((1 : Int32) = (0 : Int32)))).2) (by decide) rfl ?_
  refine m_aloadN K X2.here hx hby d_prog_6_10_19 rfl rfl rfl ?_
  refine k_getF K X2 hx hby hZ hown (host := "") (Or.inl (hw _ (List.mem_of_getElem? (i := 38) rfl))) Via.refl e2 F_occupied_a1 d_prog_6_10_20 rfl fun T3 X3 e3 => ?_
  refine m_iloadN K X3.here hx hby d_prog_6_10_23 rfl rfl ?_
  refine k_ldR K X3 hx hby hZ e3 rfl A_bo (v := (.ref x0)) (by decide) rfl d_prog_6_10_24 rfl ?_
  refine m_iloadN K X3.here hx hby d_prog_6_10_25 rfl rfl ?_
  refine m_iconst K X3.here hx hby (0 : Int32) d_prog_6_10_26 rfl rfl ?_
  refine k_stZ K X3 hx hby hZ e3 A_x0 (by decide) (Nat.le_of_ble_eq_true rfl) d_prog_6_10_27 rfl fun T4 h4 X4 e4 W4 V4 => ?_
  replace V4 : Av Z h4 x0 .boolean [(.int (0 : Int32)), (.int (0 : Int32)), (.int (1 : Int32)), (.int (1 : Int32)), (.int (1 : Int32))] := V4
  have N4 := Fr.snoc X4 N0 g_x0
  refine m_aloadN K X4.here hx hby d_prog_6_10_28 rfl rfl rfl ?_
  refine k_getF K X4 hx hby hZ hown (host := "") (Or.inl (hw _ (List.mem_of_getElem? (i := 40) rfl))) Via.refl e4 (F_uncovered_a1.other W4 (Or.inl ne_a1_x0)) d_prog_6_10_29 rfl fun T5 X5 e5 => ?_
  refine m_iloadN K X5.here hx hby d_prog_6_10_32 rfl rfl ?_
  refine m_dup2 K X5.here hx hby d_prog_6_10_33 rfl rfl rfl ?_
  refine k_ldZ K X5 hx hby hZ e5 (A_bu.other W4 (Ne.symm ne_x0_bu)) (v := (.int u0)) (by decide) rfl d_prog_6_10_34 rfl ?_
  refine m_iloadN K X5.here hx hby d_prog_6_10_35 rfl rfl ?_
  refine m_iconst K X5.here hx hby (4 : Int32) d_prog_6_10_36 rfl rfl ?_
  refine m_icmpY K X5.here hx hby (q := 44) d_prog_6_10_37 (feq (by decide : ¬ ((1 : Int32) = (4 : Int32)))).2 (by decide) rfl ?_
  refine m_iconst K X5.here hx hby (0 : Int32) d_prog_6_10_44 rfl rfl ?_
  refine m_ior K X5.here hx hby (u0 ||| (0 : Int32)) d_prog_6_10_45 rfl rfl ?_
  refine k_stZ K X5 hx hby hZ e5 (A_bu.other W4 (Ne.symm ne_x0_bu)) (by decide) (Nat.le_of_ble_eq_true rfl) d_prog_6_10_46 rfl fun T6 h6 X6 e6 W6 V6 => ?_
  replace V6 : Av Z h6 bu .boolean [(.int (nar .boolean (u0 ||| (0 : Int32)))), (.int u1), (.int u2)] := V6
  have N6 := Fr.snoc X6 N4 g_bu
  exact Go.retV X6 hx hby hlk hret d_prog_6_10_47 (by decide) (by decide) (by rw [e6]; exact ⟨(nar .boolean (u0 ||| (0 : Int32))), u1, u2, rfl, N6, (((Keep.refl h0 [x0, bu]).wr W4 (Or.inl (by simp))).wr W6 (Or.inl (by simp))), (V4.other W6 ne_x0_bu), V6⟩)
theorem ef8_0_2 (m : MethodId) (x0 : Addr) (x1 : Int32) : entryFrame m #[(.ref x0), (.int x1)] 3 = mkF m 0 #[.val (.ref x0), .val (.int x1), .unset] [] := by first | (simp [entryFrame, mkF, argsToLocals, Value.category]; done) | rfl
set_option maxRecDepth 65536 in
set_option maxHeartbeats 40000000 in
theorem c8_0_2 (l : Launch) (Z : State) (a0 : Array Value) (hw : ∀ d ∈ tables_1, d.before a0 Z = true) (a1 : Addr) (bo : Addr) (bu : Addr) (x0 : Addr) (x1 : Addr) (x2 : Addr) (u0 : Int32) (u1 : Int32) (u2 : Int32) (h0 : Heap) (n0 : Nat) (Z0 : n0 ≤ h0.size) (E_a1 : Exa Z h0 a1 "com/example/craterworks/craterworks/SharesStation") (F_occupied_a1 : Fld Z h0 a1 "com/example/craterworks/craterworks/SharesStation" "occupied" "[[Z" (.ref bo)) (F_uncovered_a1 : Fld Z h0 a1 "com/example/craterworks/craterworks/SharesStation" "uncovered" "[Z" (.ref bu)) (A_bo : Av Z h0 bo (.array .boolean) [(.ref x0), (.ref x1), (.ref x2)]) (A_x0 : Av Z h0 x0 .boolean [(.int (0 : Int32)), (.int (0 : Int32)), (.int (1 : Int32)), (.int (1 : Int32)), (.int (1 : Int32))]) (A_bu : Av Z h0 bu .boolean [(.int u0), (.int u1), (.int u2)]) (g_x0 : n0 ≤ x0) (g_bu : n0 ≤ bu) (ne_a1_x0 : a1 ≠ x0) (ne_a1_bu : a1 ≠ bu) (ne_bo_x0 : bo ≠ x0) (ne_bo_bu : bo ≠ bu) (ne_x0_bu : x0 ≠ bu) :
    Con l Z (⟨"com/example/craterworks/craterworks/SharesStation", "take", "(I)V"⟩ : MethodName) prog_6_method_10_code 3 none ({ frames := 0, cells := 0, slots := 0, locals := 0 } : Room) [] #[(.ref a1), (.int (0 : Int32))] h0 (fun v h L => ∃ zu0 : Int32, ∃ zu1 : Int32, ∃ zu2 : Int32, v = none ∧ Fr n0 L ∧ Keep h0 h [x0, bu] ∧ Av Z h x0 .boolean [(.int (0 : Int32)), (.int (0 : Int32)), (.int (0 : Int32)), (.int (1 : Int32)), (.int (1 : Int32))] ∧ Av Z h bu .boolean [(.int zu0), (.int zu1), (.int zu2)]) := by
  refine Con.of (plainFor_of_name pn_com_example_craterworks_craterworks_SharesStation) #[.val (.ref a1), .val (.int (0 : Int32)), .unset] (fun m => ef8_0_2 m a1 (0 : Int32)) ?_
  intro p e s m below meth c s₁ K hx hby hml hown hnm hret hlk hZ X0 e0
  have N0 := Fr.nil n0
  refine m_iconst K X0.here hx hby (0 : Int32) d_prog_6_10_0 rfl rfl ?_
  refine m_istoreN K X0.here hx hby #[.val (.ref a1), .val (.int (0 : Int32)), .val (.int (0 : Int32))] d_prog_6_10_1 rfl rfl ?_
  refine m_aloadN K X0.here hx hby d_prog_6_10_2 rfl rfl rfl ?_
  refine k_getF K X0 hx hby hZ hown (host := "") (Or.inl (hw _ (List.mem_of_getElem? (i := 38) rfl))) Via.refl e0 F_occupied_a1 d_prog_6_10_3 rfl fun T1 X1 e1 => ?_
  refine m_iloadN K X1.here hx hby d_prog_6_10_6 rfl rfl ?_
  refine k_ldR K X1 hx hby hZ e1 rfl A_bo (v := (.ref x0)) (by decide) rfl d_prog_6_10_7 rfl ?_
  refine m_iloadN K X1.here hx hby d_prog_6_10_8 rfl rfl ?_
  refine k_ldZ K X1 hx hby hZ e1 A_x0 (v := (.int (0 : Int32))) (by decide) rfl d_prog_6_10_9 rfl ?_
  refine m_ifN K X1.here hx hby (q := 13) d_prog_6_10_10 ((if0 _ _).trans (teq (by decide : (0 : Int32) = (0 : Int32))).2) rfl ?_
  refine m_iinc K X1.here hx hby #[.val (.ref a1), .val (.int (0 : Int32)), .val (.int (1 : Int32))] d_prog_6_10_13 rfl rfl rfl ?_
  refine m_goto K X1.here hx hby (q := 2) d_prog_6_10_16 (by decide) rfl ?_
  refine m_aloadN K X1.here hx hby d_prog_6_10_2 rfl rfl rfl ?_
  refine k_getF K X1 hx hby hZ hown (host := "") (Or.inl (hw _ (List.mem_of_getElem? (i := 38) rfl))) Via.refl e1 F_occupied_a1 d_prog_6_10_3 rfl fun T2 X2 e2 => ?_
  refine m_iloadN K X2.here hx hby d_prog_6_10_6 rfl rfl ?_
  refine k_ldR K X2 hx hby hZ e2 rfl A_bo (v := (.ref x0)) (by decide) rfl d_prog_6_10_7 rfl ?_
  refine m_iloadN K X2.here hx hby d_prog_6_10_8 rfl rfl ?_
  refine k_ldZ K X2 hx hby hZ e2 A_x0 (v := (.int (0 : Int32))) (by decide) rfl d_prog_6_10_9 rfl ?_
  refine m_ifN K X2.here hx hby (q := 13) d_prog_6_10_10 ((if0 _ _).trans (teq (by decide : (0 : Int32) = (0 : Int32))).2) rfl ?_
  refine m_iinc K X2.here hx hby #[.val (.ref a1), .val (.int (0 : Int32)), .val (.int (2 : Int32))] d_prog_6_10_13 rfl rfl rfl ?_
  refine m_goto K X2.here hx hby (q := 2) d_prog_6_10_16 (by decide) rfl ?_
  refine m_aloadN K X2.here hx hby d_prog_6_10_2 rfl rfl rfl ?_
  refine k_getF K X2 hx hby hZ hown (host := "") (Or.inl (hw _ (List.mem_of_getElem? (i := 38) rfl))) Via.refl e2 F_occupied_a1 d_prog_6_10_3 rfl fun T3 X3 e3 => ?_
  refine m_iloadN K X3.here hx hby d_prog_6_10_6 rfl rfl ?_
  refine k_ldR K X3 hx hby hZ e3 rfl A_bo (v := (.ref x0)) (by decide) rfl d_prog_6_10_7 rfl ?_
  refine m_iloadN K X3.here hx hby d_prog_6_10_8 rfl rfl ?_
  refine k_ldZ K X3 hx hby hZ e3 A_x0 (v := (.int (1 : Int32))) (by decide) rfl d_prog_6_10_9 rfl ?_
  refine m_ifY K X3.here hx hby (q := 19) d_prog_6_10_10 ((if0 _ _).trans (feq (by decide : ¬ ((1 : Int32) = (0 : Int32)))).2) (by decide) rfl ?_
  refine m_aloadN K X3.here hx hby d_prog_6_10_19 rfl rfl rfl ?_
  refine k_getF K X3 hx hby hZ hown (host := "") (Or.inl (hw _ (List.mem_of_getElem? (i := 38) rfl))) Via.refl e3 F_occupied_a1 d_prog_6_10_20 rfl fun T4 X4 e4 => ?_
  refine m_iloadN K X4.here hx hby d_prog_6_10_23 rfl rfl ?_
  refine k_ldR K X4 hx hby hZ e4 rfl A_bo (v := (.ref x0)) (by decide) rfl d_prog_6_10_24 rfl ?_
  refine m_iloadN K X4.here hx hby d_prog_6_10_25 rfl rfl ?_
  refine m_iconst K X4.here hx hby (0 : Int32) d_prog_6_10_26 rfl rfl ?_
  refine k_stZ K X4 hx hby hZ e4 A_x0 (by decide) (Nat.le_of_ble_eq_true rfl) d_prog_6_10_27 rfl fun T5 h5 X5 e5 W5 V5 => ?_
  replace V5 : Av Z h5 x0 .boolean [(.int (0 : Int32)), (.int (0 : Int32)), (.int (0 : Int32)), (.int (1 : Int32)), (.int (1 : Int32))] := V5
  have N5 := Fr.snoc X5 N0 g_x0
  refine m_aloadN K X5.here hx hby d_prog_6_10_28 rfl rfl rfl ?_
  refine k_getF K X5 hx hby hZ hown (host := "") (Or.inl (hw _ (List.mem_of_getElem? (i := 40) rfl))) Via.refl e5 (F_uncovered_a1.other W5 (Or.inl ne_a1_x0)) d_prog_6_10_29 rfl fun T6 X6 e6 => ?_
  refine m_iloadN K X6.here hx hby d_prog_6_10_32 rfl rfl ?_
  refine m_dup2 K X6.here hx hby d_prog_6_10_33 rfl rfl rfl ?_
  refine k_ldZ K X6 hx hby hZ e6 (A_bu.other W5 (Ne.symm ne_x0_bu)) (v := (.int u0)) (by decide) rfl d_prog_6_10_34 rfl ?_
  refine m_iloadN K X6.here hx hby d_prog_6_10_35 rfl rfl ?_
  refine m_iconst K X6.here hx hby (4 : Int32) d_prog_6_10_36 rfl rfl ?_
  refine m_icmpY K X6.here hx hby (q := 44) d_prog_6_10_37 (feq (by decide : ¬ ((2 : Int32) = (4 : Int32)))).2 (by decide) rfl ?_
  refine m_iconst K X6.here hx hby (0 : Int32) d_prog_6_10_44 rfl rfl ?_
  refine m_ior K X6.here hx hby (u0 ||| (0 : Int32)) d_prog_6_10_45 rfl rfl ?_
  refine k_stZ K X6 hx hby hZ e6 (A_bu.other W5 (Ne.symm ne_x0_bu)) (by decide) (Nat.le_of_ble_eq_true rfl) d_prog_6_10_46 rfl fun T7 h7 X7 e7 W7 V7 => ?_
  replace V7 : Av Z h7 bu .boolean [(.int (nar .boolean (u0 ||| (0 : Int32)))), (.int u1), (.int u2)] := V7
  have N7 := Fr.snoc X7 N5 g_bu
  exact Go.retV X7 hx hby hlk hret d_prog_6_10_47 (by decide) (by decide) (by rw [e7]; exact ⟨(nar .boolean (u0 ||| (0 : Int32))), u1, u2, rfl, N7, (((Keep.refl h0 [x0, bu]).wr W5 (Or.inl (by simp))).wr W7 (Or.inl (by simp))), (V5.other W7 ne_x0_bu), V7⟩)
theorem ef8_0_3 (m : MethodId) (x0 : Addr) (x1 : Int32) : entryFrame m #[(.ref x0), (.int x1)] 3 = mkF m 0 #[.val (.ref x0), .val (.int x1), .unset] [] := by first | (simp [entryFrame, mkF, argsToLocals, Value.category]; done) | rfl
set_option maxRecDepth 65536 in
set_option maxHeartbeats 40000000 in
theorem c8_0_3 (l : Launch) (Z : State) (a0 : Array Value) (hw : ∀ d ∈ tables_1, d.before a0 Z = true) (a1 : Addr) (bo : Addr) (bu : Addr) (x0 : Addr) (x1 : Addr) (x2 : Addr) (u0 : Int32) (u1 : Int32) (u2 : Int32) (h0 : Heap) (n0 : Nat) (Z0 : n0 ≤ h0.size) (E_a1 : Exa Z h0 a1 "com/example/craterworks/craterworks/SharesStation") (F_occupied_a1 : Fld Z h0 a1 "com/example/craterworks/craterworks/SharesStation" "occupied" "[[Z" (.ref bo)) (F_uncovered_a1 : Fld Z h0 a1 "com/example/craterworks/craterworks/SharesStation" "uncovered" "[Z" (.ref bu)) (A_bo : Av Z h0 bo (.array .boolean) [(.ref x0), (.ref x1), (.ref x2)]) (A_x0 : Av Z h0 x0 .boolean [(.int (0 : Int32)), (.int (0 : Int32)), (.int (0 : Int32)), (.int (1 : Int32)), (.int (1 : Int32))]) (A_bu : Av Z h0 bu .boolean [(.int u0), (.int u1), (.int u2)]) (g_x0 : n0 ≤ x0) (g_bu : n0 ≤ bu) (ne_a1_x0 : a1 ≠ x0) (ne_a1_bu : a1 ≠ bu) (ne_bo_x0 : bo ≠ x0) (ne_bo_bu : bo ≠ bu) (ne_x0_bu : x0 ≠ bu) :
    Con l Z (⟨"com/example/craterworks/craterworks/SharesStation", "take", "(I)V"⟩ : MethodName) prog_6_method_10_code 3 none ({ frames := 0, cells := 0, slots := 0, locals := 0 } : Room) [] #[(.ref a1), (.int (0 : Int32))] h0 (fun v h L => ∃ zu0 : Int32, ∃ zu1 : Int32, ∃ zu2 : Int32, v = none ∧ Fr n0 L ∧ Keep h0 h [x0, bu] ∧ Av Z h x0 .boolean [(.int (0 : Int32)), (.int (0 : Int32)), (.int (0 : Int32)), (.int (0 : Int32)), (.int (1 : Int32))] ∧ Av Z h bu .boolean [(.int zu0), (.int zu1), (.int zu2)]) := by
  refine Con.of (plainFor_of_name pn_com_example_craterworks_craterworks_SharesStation) #[.val (.ref a1), .val (.int (0 : Int32)), .unset] (fun m => ef8_0_3 m a1 (0 : Int32)) ?_
  intro p e s m below meth c s₁ K hx hby hml hown hnm hret hlk hZ X0 e0
  have N0 := Fr.nil n0
  refine m_iconst K X0.here hx hby (0 : Int32) d_prog_6_10_0 rfl rfl ?_
  refine m_istoreN K X0.here hx hby #[.val (.ref a1), .val (.int (0 : Int32)), .val (.int (0 : Int32))] d_prog_6_10_1 rfl rfl ?_
  refine m_aloadN K X0.here hx hby d_prog_6_10_2 rfl rfl rfl ?_
  refine k_getF K X0 hx hby hZ hown (host := "") (Or.inl (hw _ (List.mem_of_getElem? (i := 38) rfl))) Via.refl e0 F_occupied_a1 d_prog_6_10_3 rfl fun T1 X1 e1 => ?_
  refine m_iloadN K X1.here hx hby d_prog_6_10_6 rfl rfl ?_
  refine k_ldR K X1 hx hby hZ e1 rfl A_bo (v := (.ref x0)) (by decide) rfl d_prog_6_10_7 rfl ?_
  refine m_iloadN K X1.here hx hby d_prog_6_10_8 rfl rfl ?_
  refine k_ldZ K X1 hx hby hZ e1 A_x0 (v := (.int (0 : Int32))) (by decide) rfl d_prog_6_10_9 rfl ?_
  refine m_ifN K X1.here hx hby (q := 13) d_prog_6_10_10 ((if0 _ _).trans (teq (by decide : (0 : Int32) = (0 : Int32))).2) rfl ?_
  refine m_iinc K X1.here hx hby #[.val (.ref a1), .val (.int (0 : Int32)), .val (.int (1 : Int32))] d_prog_6_10_13 rfl rfl rfl ?_
  refine m_goto K X1.here hx hby (q := 2) d_prog_6_10_16 (by decide) rfl ?_
  refine m_aloadN K X1.here hx hby d_prog_6_10_2 rfl rfl rfl ?_
  refine k_getF K X1 hx hby hZ hown (host := "") (Or.inl (hw _ (List.mem_of_getElem? (i := 38) rfl))) Via.refl e1 F_occupied_a1 d_prog_6_10_3 rfl fun T2 X2 e2 => ?_
  refine m_iloadN K X2.here hx hby d_prog_6_10_6 rfl rfl ?_
  refine k_ldR K X2 hx hby hZ e2 rfl A_bo (v := (.ref x0)) (by decide) rfl d_prog_6_10_7 rfl ?_
  refine m_iloadN K X2.here hx hby d_prog_6_10_8 rfl rfl ?_
  refine k_ldZ K X2 hx hby hZ e2 A_x0 (v := (.int (0 : Int32))) (by decide) rfl d_prog_6_10_9 rfl ?_
  refine m_ifN K X2.here hx hby (q := 13) d_prog_6_10_10 ((if0 _ _).trans (teq (by decide : (0 : Int32) = (0 : Int32))).2) rfl ?_
  refine m_iinc K X2.here hx hby #[.val (.ref a1), .val (.int (0 : Int32)), .val (.int (2 : Int32))] d_prog_6_10_13 rfl rfl rfl ?_
  refine m_goto K X2.here hx hby (q := 2) d_prog_6_10_16 (by decide) rfl ?_
  refine m_aloadN K X2.here hx hby d_prog_6_10_2 rfl rfl rfl ?_
  refine k_getF K X2 hx hby hZ hown (host := "") (Or.inl (hw _ (List.mem_of_getElem? (i := 38) rfl))) Via.refl e2 F_occupied_a1 d_prog_6_10_3 rfl fun T3 X3 e3 => ?_
  refine m_iloadN K X3.here hx hby d_prog_6_10_6 rfl rfl ?_
  refine k_ldR K X3 hx hby hZ e3 rfl A_bo (v := (.ref x0)) (by decide) rfl d_prog_6_10_7 rfl ?_
  refine m_iloadN K X3.here hx hby d_prog_6_10_8 rfl rfl ?_
  refine k_ldZ K X3 hx hby hZ e3 A_x0 (v := (.int (0 : Int32))) (by decide) rfl d_prog_6_10_9 rfl ?_
  refine m_ifN K X3.here hx hby (q := 13) d_prog_6_10_10 ((if0 _ _).trans (teq (by decide : (0 : Int32) = (0 : Int32))).2) rfl ?_
  refine m_iinc K X3.here hx hby #[.val (.ref a1), .val (.int (0 : Int32)), .val (.int (3 : Int32))] d_prog_6_10_13 rfl rfl rfl ?_
  refine m_goto K X3.here hx hby (q := 2) d_prog_6_10_16 (by decide) rfl ?_
  refine m_aloadN K X3.here hx hby d_prog_6_10_2 rfl rfl rfl ?_
  refine k_getF K X3 hx hby hZ hown (host := "") (Or.inl (hw _ (List.mem_of_getElem? (i := 38) rfl))) Via.refl e3 F_occupied_a1 d_prog_6_10_3 rfl fun T4 X4 e4 => ?_
  refine m_iloadN K X4.here hx hby d_prog_6_10_6 rfl rfl ?_
  refine k_ldR K X4 hx hby hZ e4 rfl A_bo (v := (.ref x0)) (by decide) rfl d_prog_6_10_7 rfl ?_
  refine m_iloadN K X4.here hx hby d_prog_6_10_8 rfl rfl ?_
  refine k_ldZ K X4 hx hby hZ e4 A_x0 (v := (.int (1 : Int32))) (by decide) rfl d_prog_6_10_9 rfl ?_
  refine m_ifY K X4.here hx hby (q := 19) d_prog_6_10_10 ((if0 _ _).trans (feq (by decide : ¬ ((1 : Int32) = (0 : Int32)))).2) (by decide) rfl ?_
  refine m_aloadN K X4.here hx hby d_prog_6_10_19 rfl rfl rfl ?_
  refine k_getF K X4 hx hby hZ hown (host := "") (Or.inl (hw _ (List.mem_of_getElem? (i := 38) rfl))) Via.refl e4 F_occupied_a1 d_prog_6_10_20 rfl fun T5 X5 e5 => ?_
  refine m_iloadN K X5.here hx hby d_prog_6_10_23 rfl rfl ?_
  refine k_ldR K X5 hx hby hZ e5 rfl A_bo (v := (.ref x0)) (by decide) rfl d_prog_6_10_24 rfl ?_
  refine m_iloadN K X5.here hx hby d_prog_6_10_25 rfl rfl ?_
  refine m_iconst K X5.here hx hby (0 : Int32) d_prog_6_10_26 rfl rfl ?_
  refine k_stZ K X5 hx hby hZ e5 A_x0 (by decide) (Nat.le_of_ble_eq_true rfl) d_prog_6_10_27 rfl fun T6 h6 X6 e6 W6 V6 => ?_
  replace V6 : Av Z h6 x0 .boolean [(.int (0 : Int32)), (.int (0 : Int32)), (.int (0 : Int32)), (.int (0 : Int32)), (.int (1 : Int32))] := V6
  have N6 := Fr.snoc X6 N0 g_x0
  refine m_aloadN K X6.here hx hby d_prog_6_10_28 rfl rfl rfl ?_
  refine k_getF K X6 hx hby hZ hown (host := "") (Or.inl (hw _ (List.mem_of_getElem? (i := 40) rfl))) Via.refl e6 (F_uncovered_a1.other W6 (Or.inl ne_a1_x0)) d_prog_6_10_29 rfl fun T7 X7 e7 => ?_
  refine m_iloadN K X7.here hx hby d_prog_6_10_32 rfl rfl ?_
  refine m_dup2 K X7.here hx hby d_prog_6_10_33 rfl rfl rfl ?_
  refine k_ldZ K X7 hx hby hZ e7 (A_bu.other W6 (Ne.symm ne_x0_bu)) (v := (.int u0)) (by decide) rfl d_prog_6_10_34 rfl ?_
  refine m_iloadN K X7.here hx hby d_prog_6_10_35 rfl rfl ?_
  refine m_iconst K X7.here hx hby (4 : Int32) d_prog_6_10_36 rfl rfl ?_
  refine m_icmpY K X7.here hx hby (q := 44) d_prog_6_10_37 (feq (by decide : ¬ ((3 : Int32) = (4 : Int32)))).2 (by decide) rfl ?_
  refine m_iconst K X7.here hx hby (0 : Int32) d_prog_6_10_44 rfl rfl ?_
  refine m_ior K X7.here hx hby (u0 ||| (0 : Int32)) d_prog_6_10_45 rfl rfl ?_
  refine k_stZ K X7 hx hby hZ e7 (A_bu.other W6 (Ne.symm ne_x0_bu)) (by decide) (Nat.le_of_ble_eq_true rfl) d_prog_6_10_46 rfl fun T8 h8 X8 e8 W8 V8 => ?_
  replace V8 : Av Z h8 bu .boolean [(.int (nar .boolean (u0 ||| (0 : Int32)))), (.int u1), (.int u2)] := V8
  have N8 := Fr.snoc X8 N6 g_bu
  exact Go.retV X8 hx hby hlk hret d_prog_6_10_47 (by decide) (by decide) (by rw [e8]; exact ⟨(nar .boolean (u0 ||| (0 : Int32))), u1, u2, rfl, N8, (((Keep.refl h0 [x0, bu]).wr W6 (Or.inl (by simp))).wr W8 (Or.inl (by simp))), (V6.other W8 ne_x0_bu), V8⟩)
theorem d_prog_6_10_40 : decode prog_6_method_10_code 40 = .ok (.iconst 1, 1) := by decide +kernel
theorem d_prog_6_10_41 : decode prog_6_method_10_code 41 = .ok (.goto 4, 3) := by decide +kernel
theorem ef8_0_4 (m : MethodId) (x0 : Addr) (x1 : Int32) : entryFrame m #[(.ref x0), (.int x1)] 3 = mkF m 0 #[.val (.ref x0), .val (.int x1), .unset] [] := by first | (simp [entryFrame, mkF, argsToLocals, Value.category]; done) | rfl
set_option maxRecDepth 65536 in
set_option maxHeartbeats 40000000 in
theorem c8_0_4 (l : Launch) (Z : State) (a0 : Array Value) (hw : ∀ d ∈ tables_1, d.before a0 Z = true) (a1 : Addr) (bo : Addr) (bu : Addr) (x0 : Addr) (x1 : Addr) (x2 : Addr) (u0 : Int32) (u1 : Int32) (u2 : Int32) (h0 : Heap) (n0 : Nat) (Z0 : n0 ≤ h0.size) (E_a1 : Exa Z h0 a1 "com/example/craterworks/craterworks/SharesStation") (F_occupied_a1 : Fld Z h0 a1 "com/example/craterworks/craterworks/SharesStation" "occupied" "[[Z" (.ref bo)) (F_uncovered_a1 : Fld Z h0 a1 "com/example/craterworks/craterworks/SharesStation" "uncovered" "[Z" (.ref bu)) (A_bo : Av Z h0 bo (.array .boolean) [(.ref x0), (.ref x1), (.ref x2)]) (A_x0 : Av Z h0 x0 .boolean [(.int (0 : Int32)), (.int (0 : Int32)), (.int (0 : Int32)), (.int (0 : Int32)), (.int (1 : Int32))]) (A_bu : Av Z h0 bu .boolean [(.int u0), (.int u1), (.int u2)]) (g_x0 : n0 ≤ x0) (g_bu : n0 ≤ bu) (ne_a1_x0 : a1 ≠ x0) (ne_a1_bu : a1 ≠ bu) (ne_bo_x0 : bo ≠ x0) (ne_bo_bu : bo ≠ bu) (ne_x0_bu : x0 ≠ bu) :
    Con l Z (⟨"com/example/craterworks/craterworks/SharesStation", "take", "(I)V"⟩ : MethodName) prog_6_method_10_code 3 none ({ frames := 0, cells := 0, slots := 0, locals := 0 } : Room) [] #[(.ref a1), (.int (0 : Int32))] h0 (fun v h L => ∃ zu0 : Int32, ∃ zu1 : Int32, ∃ zu2 : Int32, v = none ∧ Fr n0 L ∧ Keep h0 h [x0, bu] ∧ Av Z h x0 .boolean [(.int (0 : Int32)), (.int (0 : Int32)), (.int (0 : Int32)), (.int (0 : Int32)), (.int (0 : Int32))] ∧ Av Z h bu .boolean [(.int zu0), (.int zu1), (.int zu2)]) := by
  refine Con.of (plainFor_of_name pn_com_example_craterworks_craterworks_SharesStation) #[.val (.ref a1), .val (.int (0 : Int32)), .unset] (fun m => ef8_0_4 m a1 (0 : Int32)) ?_
  intro p e s m below meth c s₁ K hx hby hml hown hnm hret hlk hZ X0 e0
  have N0 := Fr.nil n0
  refine m_iconst K X0.here hx hby (0 : Int32) d_prog_6_10_0 rfl rfl ?_
  refine m_istoreN K X0.here hx hby #[.val (.ref a1), .val (.int (0 : Int32)), .val (.int (0 : Int32))] d_prog_6_10_1 rfl rfl ?_
  refine m_aloadN K X0.here hx hby d_prog_6_10_2 rfl rfl rfl ?_
  refine k_getF K X0 hx hby hZ hown (host := "") (Or.inl (hw _ (List.mem_of_getElem? (i := 38) rfl))) Via.refl e0 F_occupied_a1 d_prog_6_10_3 rfl fun T1 X1 e1 => ?_
  refine m_iloadN K X1.here hx hby d_prog_6_10_6 rfl rfl ?_
  refine k_ldR K X1 hx hby hZ e1 rfl A_bo (v := (.ref x0)) (by decide) rfl d_prog_6_10_7 rfl ?_
  refine m_iloadN K X1.here hx hby d_prog_6_10_8 rfl rfl ?_
  refine k_ldZ K X1 hx hby hZ e1 A_x0 (v := (.int (0 : Int32))) (by decide) rfl d_prog_6_10_9 rfl ?_
  refine m_ifN K X1.here hx hby (q := 13) d_prog_6_10_10 ((if0 _ _).trans (teq (by decide : (0 : Int32) = (0 : Int32))).2) rfl ?_
  refine m_iinc K X1.here hx hby #[.val (.ref a1), .val (.int (0 : Int32)), .val (.int (1 : Int32))] d_prog_6_10_13 rfl rfl rfl ?_
  refine m_goto K X1.here hx hby (q := 2) d_prog_6_10_16 (by decide) rfl ?_
  refine m_aloadN K X1.here hx hby d_prog_6_10_2 rfl rfl rfl ?_
  refine k_getF K X1 hx hby hZ hown (host := "") (Or.inl (hw _ (List.mem_of_getElem? (i := 38) rfl))) Via.refl e1 F_occupied_a1 d_prog_6_10_3 rfl fun T2 X2 e2 => ?_
  refine m_iloadN K X2.here hx hby d_prog_6_10_6 rfl rfl ?_
  refine k_ldR K X2 hx hby hZ e2 rfl A_bo (v := (.ref x0)) (by decide) rfl d_prog_6_10_7 rfl ?_
  refine m_iloadN K X2.here hx hby d_prog_6_10_8 rfl rfl ?_
  refine k_ldZ K X2 hx hby hZ e2 A_x0 (v := (.int (0 : Int32))) (by decide) rfl d_prog_6_10_9 rfl ?_
  refine m_ifN K X2.here hx hby (q := 13) d_prog_6_10_10 ((if0 _ _).trans (teq (by decide : (0 : Int32) = (0 : Int32))).2) rfl ?_
  refine m_iinc K X2.here hx hby #[.val (.ref a1), .val (.int (0 : Int32)), .val (.int (2 : Int32))] d_prog_6_10_13 rfl rfl rfl ?_
  refine m_goto K X2.here hx hby (q := 2) d_prog_6_10_16 (by decide) rfl ?_
  refine m_aloadN K X2.here hx hby d_prog_6_10_2 rfl rfl rfl ?_
  refine k_getF K X2 hx hby hZ hown (host := "") (Or.inl (hw _ (List.mem_of_getElem? (i := 38) rfl))) Via.refl e2 F_occupied_a1 d_prog_6_10_3 rfl fun T3 X3 e3 => ?_
  refine m_iloadN K X3.here hx hby d_prog_6_10_6 rfl rfl ?_
  refine k_ldR K X3 hx hby hZ e3 rfl A_bo (v := (.ref x0)) (by decide) rfl d_prog_6_10_7 rfl ?_
  refine m_iloadN K X3.here hx hby d_prog_6_10_8 rfl rfl ?_
  refine k_ldZ K X3 hx hby hZ e3 A_x0 (v := (.int (0 : Int32))) (by decide) rfl d_prog_6_10_9 rfl ?_
  refine m_ifN K X3.here hx hby (q := 13) d_prog_6_10_10 ((if0 _ _).trans (teq (by decide : (0 : Int32) = (0 : Int32))).2) rfl ?_
  refine m_iinc K X3.here hx hby #[.val (.ref a1), .val (.int (0 : Int32)), .val (.int (3 : Int32))] d_prog_6_10_13 rfl rfl rfl ?_
  refine m_goto K X3.here hx hby (q := 2) d_prog_6_10_16 (by decide) rfl ?_
  refine m_aloadN K X3.here hx hby d_prog_6_10_2 rfl rfl rfl ?_
  refine k_getF K X3 hx hby hZ hown (host := "") (Or.inl (hw _ (List.mem_of_getElem? (i := 38) rfl))) Via.refl e3 F_occupied_a1 d_prog_6_10_3 rfl fun T4 X4 e4 => ?_
  refine m_iloadN K X4.here hx hby d_prog_6_10_6 rfl rfl ?_
  refine k_ldR K X4 hx hby hZ e4 rfl A_bo (v := (.ref x0)) (by decide) rfl d_prog_6_10_7 rfl ?_
  refine m_iloadN K X4.here hx hby d_prog_6_10_8 rfl rfl ?_
  refine k_ldZ K X4 hx hby hZ e4 A_x0 (v := (.int (0 : Int32))) (by decide) rfl d_prog_6_10_9 rfl ?_
  refine m_ifN K X4.here hx hby (q := 13) d_prog_6_10_10 ((if0 _ _).trans (teq (by decide : (0 : Int32) = (0 : Int32))).2) rfl ?_
  refine m_iinc K X4.here hx hby #[.val (.ref a1), .val (.int (0 : Int32)), .val (.int (4 : Int32))] d_prog_6_10_13 rfl rfl rfl ?_
  refine m_goto K X4.here hx hby (q := 2) d_prog_6_10_16 (by decide) rfl ?_
  refine m_aloadN K X4.here hx hby d_prog_6_10_2 rfl rfl rfl ?_
  refine k_getF K X4 hx hby hZ hown (host := "") (Or.inl (hw _ (List.mem_of_getElem? (i := 38) rfl))) Via.refl e4 F_occupied_a1 d_prog_6_10_3 rfl fun T5 X5 e5 => ?_
  refine m_iloadN K X5.here hx hby d_prog_6_10_6 rfl rfl ?_
  refine k_ldR K X5 hx hby hZ e5 rfl A_bo (v := (.ref x0)) (by decide) rfl d_prog_6_10_7 rfl ?_
  refine m_iloadN K X5.here hx hby d_prog_6_10_8 rfl rfl ?_
  refine k_ldZ K X5 hx hby hZ e5 A_x0 (v := (.int (1 : Int32))) (by decide) rfl d_prog_6_10_9 rfl ?_
  refine m_ifY K X5.here hx hby (q := 19) d_prog_6_10_10 ((if0 _ _).trans (feq (by decide : ¬ ((1 : Int32) = (0 : Int32)))).2) (by decide) rfl ?_
  refine m_aloadN K X5.here hx hby d_prog_6_10_19 rfl rfl rfl ?_
  refine k_getF K X5 hx hby hZ hown (host := "") (Or.inl (hw _ (List.mem_of_getElem? (i := 38) rfl))) Via.refl e5 F_occupied_a1 d_prog_6_10_20 rfl fun T6 X6 e6 => ?_
  refine m_iloadN K X6.here hx hby d_prog_6_10_23 rfl rfl ?_
  refine k_ldR K X6 hx hby hZ e6 rfl A_bo (v := (.ref x0)) (by decide) rfl d_prog_6_10_24 rfl ?_
  refine m_iloadN K X6.here hx hby d_prog_6_10_25 rfl rfl ?_
  refine m_iconst K X6.here hx hby (0 : Int32) d_prog_6_10_26 rfl rfl ?_
  refine k_stZ K X6 hx hby hZ e6 A_x0 (by decide) (Nat.le_of_ble_eq_true rfl) d_prog_6_10_27 rfl fun T7 h7 X7 e7 W7 V7 => ?_
  replace V7 : Av Z h7 x0 .boolean [(.int (0 : Int32)), (.int (0 : Int32)), (.int (0 : Int32)), (.int (0 : Int32)), (.int (0 : Int32))] := V7
  have N7 := Fr.snoc X7 N0 g_x0
  refine m_aloadN K X7.here hx hby d_prog_6_10_28 rfl rfl rfl ?_
  refine k_getF K X7 hx hby hZ hown (host := "") (Or.inl (hw _ (List.mem_of_getElem? (i := 40) rfl))) Via.refl e7 (F_uncovered_a1.other W7 (Or.inl ne_a1_x0)) d_prog_6_10_29 rfl fun T8 X8 e8 => ?_
  refine m_iloadN K X8.here hx hby d_prog_6_10_32 rfl rfl ?_
  refine m_dup2 K X8.here hx hby d_prog_6_10_33 rfl rfl rfl ?_
  refine k_ldZ K X8 hx hby hZ e8 (A_bu.other W7 (Ne.symm ne_x0_bu)) (v := (.int u0)) (by decide) rfl d_prog_6_10_34 rfl ?_
  refine m_iloadN K X8.here hx hby d_prog_6_10_35 rfl rfl ?_
  refine m_iconst K X8.here hx hby (4 : Int32) d_prog_6_10_36 rfl rfl ?_
  refine m_icmpN K X8.here hx hby (q := 40) d_prog_6_10_37 (teq (by decide : (4 : Int32) = (4 : Int32))).2 rfl ?_
  refine m_iconst K X8.here hx hby (1 : Int32) d_prog_6_10_40 rfl rfl ?_
  refine m_goto K X8.here hx hby (q := 45) d_prog_6_10_41 (by decide) rfl ?_
  refine m_ior K X8.here hx hby (u0 ||| (1 : Int32)) d_prog_6_10_45 rfl rfl ?_
  refine k_stZ K X8 hx hby hZ e8 (A_bu.other W7 (Ne.symm ne_x0_bu)) (by decide) (Nat.le_of_ble_eq_true rfl) d_prog_6_10_46 rfl fun T9 h9 X9 e9 W9 V9 => ?_
  replace V9 : Av Z h9 bu .boolean [(.int (nar .boolean (u0 ||| (1 : Int32)))), (.int u1), (.int u2)] := V9
  have N9 := Fr.snoc X9 N7 g_bu
  exact Go.retV X9 hx hby hlk hret d_prog_6_10_47 (by decide) (by decide) (by rw [e9]; exact ⟨(nar .boolean (u0 ||| (1 : Int32))), u1, u2, rfl, N9, (((Keep.refl h0 [x0, bu]).wr W7 (Or.inl (by simp))).wr W9 (Or.inl (by simp))), (V7.other W9 ne_x0_bu), V9⟩)
theorem ef8_1_0 (m : MethodId) (x0 : Addr) (x1 : Int32) : entryFrame m #[(.ref x0), (.int x1)] 3 = mkF m 0 #[.val (.ref x0), .val (.int x1), .unset] [] := by first | (simp [entryFrame, mkF, argsToLocals, Value.category]; done) | rfl
set_option maxRecDepth 65536 in
set_option maxHeartbeats 40000000 in
theorem c8_1_0 (l : Launch) (Z : State) (a0 : Array Value) (hw : ∀ d ∈ tables_1, d.before a0 Z = true) (a1 : Addr) (bo : Addr) (bu : Addr) (x0 : Addr) (x1 : Addr) (x2 : Addr) (u0 : Int32) (u1 : Int32) (u2 : Int32) (h0 : Heap) (n0 : Nat) (Z0 : n0 ≤ h0.size) (E_a1 : Exa Z h0 a1 "com/example/craterworks/craterworks/SharesStation") (F_occupied_a1 : Fld Z h0 a1 "com/example/craterworks/craterworks/SharesStation" "occupied" "[[Z" (.ref bo)) (F_uncovered_a1 : Fld Z h0 a1 "com/example/craterworks/craterworks/SharesStation" "uncovered" "[Z" (.ref bu)) (A_bo : Av Z h0 bo (.array .boolean) [(.ref x0), (.ref x1), (.ref x2)]) (A_x1 : Av Z h0 x1 .boolean [(.int (1 : Int32)), (.int (1 : Int32)), (.int (1 : Int32)), (.int (1 : Int32)), (.int (1 : Int32))]) (A_bu : Av Z h0 bu .boolean [(.int u0), (.int u1), (.int u2)]) (g_x1 : n0 ≤ x1) (g_bu : n0 ≤ bu) (ne_a1_x1 : a1 ≠ x1) (ne_a1_bu : a1 ≠ bu) (ne_bo_x1 : bo ≠ x1) (ne_bo_bu : bo ≠ bu) (ne_x1_bu : x1 ≠ bu) :
    Con l Z (⟨"com/example/craterworks/craterworks/SharesStation", "take", "(I)V"⟩ : MethodName) prog_6_method_10_code 3 none ({ frames := 0, cells := 0, slots := 0, locals := 0 } : Room) [] #[(.ref a1), (.int (1 : Int32))] h0 (fun v h L => ∃ zu0 : Int32, ∃ zu1 : Int32, ∃ zu2 : Int32, v = none ∧ Fr n0 L ∧ Keep h0 h [x1, bu] ∧ Av Z h x1 .boolean [(.int (0 : Int32)), (.int (1 : Int32)), (.int (1 : Int32)), (.int (1 : Int32)), (.int (1 : Int32))] ∧ Av Z h bu .boolean [(.int zu0), (.int zu1), (.int zu2)]) := by
  refine Con.of (plainFor_of_name pn_com_example_craterworks_craterworks_SharesStation) #[.val (.ref a1), .val (.int (1 : Int32)), .unset] (fun m => ef8_1_0 m a1 (1 : Int32)) ?_
  intro p e s m below meth c s₁ K hx hby hml hown hnm hret hlk hZ X0 e0
  have N0 := Fr.nil n0
  refine m_iconst K X0.here hx hby (0 : Int32) d_prog_6_10_0 rfl rfl ?_
  refine m_istoreN K X0.here hx hby #[.val (.ref a1), .val (.int (1 : Int32)), .val (.int (0 : Int32))] d_prog_6_10_1 rfl rfl ?_
  refine m_aloadN K X0.here hx hby d_prog_6_10_2 rfl rfl rfl ?_
  refine k_getF K X0 hx hby hZ hown (host := "") (Or.inl (hw _ (List.mem_of_getElem? (i := 38) rfl))) Via.refl e0 F_occupied_a1 d_prog_6_10_3 rfl fun T1 X1 e1 => ?_
  refine m_iloadN K X1.here hx hby d_prog_6_10_6 rfl rfl ?_
  refine k_ldR K X1 hx hby hZ e1 rfl A_bo (v := (.ref x1)) (by decide) rfl d_prog_6_10_7 rfl ?_
  refine m_iloadN K X1.here hx hby d_prog_6_10_8 rfl rfl ?_
  refine k_ldZ K X1 hx hby hZ e1 A_x1 (v := (.int (1 : Int32))) (by decide) rfl d_prog_6_10_9 rfl ?_
  refine m_ifY K X1.here hx hby (q := 19) d_prog_6_10_10 ((if0 _ _).trans (feq (by decide : ¬ ((1 : Int32) = (0 : Int32)))).2) (by decide) rfl ?_
  refine m_aloadN K X1.here hx hby d_prog_6_10_19 rfl rfl rfl ?_
  refine k_getF K X1 hx hby hZ hown (host := "") (Or.inl (hw _ (List.mem_of_getElem? (i := 38) rfl))) Via.refl e1 F_occupied_a1 d_prog_6_10_20 rfl fun T2 X2 e2 => ?_
  refine m_iloadN K X2.here hx hby d_prog_6_10_23 rfl rfl ?_
  refine k_ldR K X2 hx hby hZ e2 rfl A_bo (v := (.ref x1)) (by decide) rfl d_prog_6_10_24 rfl ?_
  refine m_iloadN K X2.here hx hby d_prog_6_10_25 rfl rfl ?_
  refine m_iconst K X2.here hx hby (0 : Int32) d_prog_6_10_26 rfl rfl ?_
  refine k_stZ K X2 hx hby hZ e2 A_x1 (by decide) (Nat.le_of_ble_eq_true rfl) d_prog_6_10_27 rfl fun T3 h3 X3 e3 W3 V3 => ?_
  replace V3 : Av Z h3 x1 .boolean [(.int (0 : Int32)), (.int (1 : Int32)), (.int (1 : Int32)), (.int (1 : Int32)), (.int (1 : Int32))] := V3
  have N3 := Fr.snoc X3 N0 g_x1
  refine m_aloadN K X3.here hx hby d_prog_6_10_28 rfl rfl rfl ?_
  refine k_getF K X3 hx hby hZ hown (host := "") (Or.inl (hw _ (List.mem_of_getElem? (i := 40) rfl))) Via.refl e3 (F_uncovered_a1.other W3 (Or.inl ne_a1_x1)) d_prog_6_10_29 rfl fun T4 X4 e4 => ?_
  refine m_iloadN K X4.here hx hby d_prog_6_10_32 rfl rfl ?_
  refine m_dup2 K X4.here hx hby d_prog_6_10_33 rfl rfl rfl ?_
  refine k_ldZ K X4 hx hby hZ e4 (A_bu.other W3 (Ne.symm ne_x1_bu)) (v := (.int u1)) (by decide) rfl d_prog_6_10_34 rfl ?_
  refine m_iloadN K X4.here hx hby d_prog_6_10_35 rfl rfl ?_
  refine m_iconst K X4.here hx hby (4 : Int32) d_prog_6_10_36 rfl rfl ?_
  refine m_icmpY K X4.here hx hby (q := 44) d_prog_6_10_37 (feq (by decide : ¬ ((0 : Int32) = (4 : Int32)))).2 (by decide) rfl ?_
  refine m_iconst K X4.here hx hby (0 : Int32) d_prog_6_10_44 rfl rfl ?_
  refine m_ior K X4.here hx hby (u1 ||| (0 : Int32)) d_prog_6_10_45 rfl rfl ?_
  refine k_stZ K X4 hx hby hZ e4 (A_bu.other W3 (Ne.symm ne_x1_bu)) (by decide) (Nat.le_of_ble_eq_true rfl) d_prog_6_10_46 rfl fun T5 h5 X5 e5 W5 V5 => ?_
  replace V5 : Av Z h5 bu .boolean [(.int u0), (.int (nar .boolean (u1 ||| (0 : Int32)))), (.int u2)] := V5
  have N5 := Fr.snoc X5 N3 g_bu
  exact Go.retV X5 hx hby hlk hret d_prog_6_10_47 (by decide) (by decide) (by rw [e5]; exact ⟨u0, (nar .boolean (u1 ||| (0 : Int32))), u2, rfl, N5, (((Keep.refl h0 [x1, bu]).wr W3 (Or.inl (by simp))).wr W5 (Or.inl (by simp))), (V3.other W5 ne_x1_bu), V5⟩)
theorem ef8_1_1 (m : MethodId) (x0 : Addr) (x1 : Int32) : entryFrame m #[(.ref x0), (.int x1)] 3 = mkF m 0 #[.val (.ref x0), .val (.int x1), .unset] [] := by first | (simp [entryFrame, mkF, argsToLocals, Value.category]; done) | rfl
set_option maxRecDepth 65536 in
set_option maxHeartbeats 40000000 in
theorem c8_1_1 (l : Launch) (Z : State) (a0 : Array Value) (hw : ∀ d ∈ tables_1, d.before a0 Z = true) (a1 : Addr) (bo : Addr) (bu : Addr) (x0 : Addr) (x1 : Addr) (x2 : Addr) (u0 : Int32) (u1 : Int32) (u2 : Int32) (h0 : Heap) (n0 : Nat) (Z0 : n0 ≤ h0.size) (E_a1 : Exa Z h0 a1 "com/example/craterworks/craterworks/SharesStation") (F_occupied_a1 : Fld Z h0 a1 "com/example/craterworks/craterworks/SharesStation" "occupied" "[[Z" (.ref bo)) (F_uncovered_a1 : Fld Z h0 a1 "com/example/craterworks/craterworks/SharesStation" "uncovered" "[Z" (.ref bu)) (A_bo : Av Z h0 bo (.array .boolean) [(.ref x0), (.ref x1), (.ref x2)]) (A_x1 : Av Z h0 x1 .boolean [(.int (0 : Int32)), (.int (1 : Int32)), (.int (1 : Int32)), (.int (1 : Int32)), (.int (1 : Int32))]) (A_bu : Av Z h0 bu .boolean [(.int u0), (.int u1), (.int u2)]) (g_x1 : n0 ≤ x1) (g_bu : n0 ≤ bu) (ne_a1_x1 : a1 ≠ x1) (ne_a1_bu : a1 ≠ bu) (ne_bo_x1 : bo ≠ x1) (ne_bo_bu : bo ≠ bu) (ne_x1_bu : x1 ≠ bu) :
    Con l Z (⟨"com/example/craterworks/craterworks/SharesStation", "take", "(I)V"⟩ : MethodName) prog_6_method_10_code 3 none ({ frames := 0, cells := 0, slots := 0, locals := 0 } : Room) [] #[(.ref a1), (.int (1 : Int32))] h0 (fun v h L => ∃ zu0 : Int32, ∃ zu1 : Int32, ∃ zu2 : Int32, v = none ∧ Fr n0 L ∧ Keep h0 h [x1, bu] ∧ Av Z h x1 .boolean [(.int (0 : Int32)), (.int (0 : Int32)), (.int (1 : Int32)), (.int (1 : Int32)), (.int (1 : Int32))] ∧ Av Z h bu .boolean [(.int zu0), (.int zu1), (.int zu2)]) := by
  refine Con.of (plainFor_of_name pn_com_example_craterworks_craterworks_SharesStation) #[.val (.ref a1), .val (.int (1 : Int32)), .unset] (fun m => ef8_1_1 m a1 (1 : Int32)) ?_
  intro p e s m below meth c s₁ K hx hby hml hown hnm hret hlk hZ X0 e0
  have N0 := Fr.nil n0
  refine m_iconst K X0.here hx hby (0 : Int32) d_prog_6_10_0 rfl rfl ?_
  refine m_istoreN K X0.here hx hby #[.val (.ref a1), .val (.int (1 : Int32)), .val (.int (0 : Int32))] d_prog_6_10_1 rfl rfl ?_
  refine m_aloadN K X0.here hx hby d_prog_6_10_2 rfl rfl rfl ?_
  refine k_getF K X0 hx hby hZ hown (host := "") (Or.inl (hw _ (List.mem_of_getElem? (i := 38) rfl))) Via.refl e0 F_occupied_a1 d_prog_6_10_3 rfl fun T1 X1 e1 => ?_
  refine m_iloadN K X1.here hx hby d_prog_6_10_6 rfl rfl ?_
  refine k_ldR K X1 hx hby hZ e1 rfl A_bo (v := (.ref x1)) (by decide) rfl d_prog_6_10_7 rfl ?_
  refine m_iloadN K X1.here hx hby d_prog_6_10_8 rfl rfl ?_
  refine k_ldZ K X1 hx hby hZ e1 A_x1 (v := (.int (0 : Int32))) (by decide) rfl d_prog_6_10_9 rfl ?_
  refine m_ifN K X1.here hx hby (q := 13) d_prog_6_10_10 ((if0 _ _).trans (teq (by decide : (0 : Int32) = (0 : Int32))).2) rfl ?_
  refine m_iinc K X1.here hx hby #[.val (.ref a1), .val (.int (1 : Int32)), .val (.int (1 : Int32))] d_prog_6_10_13 rfl rfl rfl ?_
  refine m_goto K X1.here hx hby (q := 2) d_prog_6_10_16 (by decide) rfl ?_
  refine m_aloadN K X1.here hx hby d_prog_6_10_2 rfl rfl rfl ?_
  refine k_getF K X1 hx hby hZ hown (host := "") (Or.inl (hw _ (List.mem_of_getElem? (i := 38) rfl))) Via.refl e1 F_occupied_a1 d_prog_6_10_3 rfl fun T2 X2 e2 => ?_
  refine m_iloadN K X2.here hx hby d_prog_6_10_6 rfl rfl ?_
  refine k_ldR K X2 hx hby hZ e2 rfl A_bo (v := (.ref x1)) (by decide) rfl d_prog_6_10_7 rfl ?_
  refine m_iloadN K X2.here hx hby d_prog_6_10_8 rfl rfl ?_
  refine k_ldZ K X2 hx hby hZ e2 A_x1 (v := (.int (1 : Int32))) (by decide) rfl d_prog_6_10_9 rfl ?_
  refine m_ifY K X2.here hx hby (q := 19) d_prog_6_10_10 ((if0 _ _).trans (feq (by decide : ¬ ((1 : Int32) = (0 : Int32)))).2) (by decide) rfl ?_
  refine m_aloadN K X2.here hx hby d_prog_6_10_19 rfl rfl rfl ?_
  refine k_getF K X2 hx hby hZ hown (host := "") (Or.inl (hw _ (List.mem_of_getElem? (i := 38) rfl))) Via.refl e2 F_occupied_a1 d_prog_6_10_20 rfl fun T3 X3 e3 => ?_
  refine m_iloadN K X3.here hx hby d_prog_6_10_23 rfl rfl ?_
  refine k_ldR K X3 hx hby hZ e3 rfl A_bo (v := (.ref x1)) (by decide) rfl d_prog_6_10_24 rfl ?_
  refine m_iloadN K X3.here hx hby d_prog_6_10_25 rfl rfl ?_
  refine m_iconst K X3.here hx hby (0 : Int32) d_prog_6_10_26 rfl rfl ?_
  refine k_stZ K X3 hx hby hZ e3 A_x1 (by decide) (Nat.le_of_ble_eq_true rfl) d_prog_6_10_27 rfl fun T4 h4 X4 e4 W4 V4 => ?_
  replace V4 : Av Z h4 x1 .boolean [(.int (0 : Int32)), (.int (0 : Int32)), (.int (1 : Int32)), (.int (1 : Int32)), (.int (1 : Int32))] := V4
  have N4 := Fr.snoc X4 N0 g_x1
  refine m_aloadN K X4.here hx hby d_prog_6_10_28 rfl rfl rfl ?_
  refine k_getF K X4 hx hby hZ hown (host := "") (Or.inl (hw _ (List.mem_of_getElem? (i := 40) rfl))) Via.refl e4 (F_uncovered_a1.other W4 (Or.inl ne_a1_x1)) d_prog_6_10_29 rfl fun T5 X5 e5 => ?_
  refine m_iloadN K X5.here hx hby d_prog_6_10_32 rfl rfl ?_
  refine m_dup2 K X5.here hx hby d_prog_6_10_33 rfl rfl rfl ?_
  refine k_ldZ K X5 hx hby hZ e5 (A_bu.other W4 (Ne.symm ne_x1_bu)) (v := (.int u1)) (by decide) rfl d_prog_6_10_34 rfl ?_
  refine m_iloadN K X5.here hx hby d_prog_6_10_35 rfl rfl ?_
  refine m_iconst K X5.here hx hby (4 : Int32) d_prog_6_10_36 rfl rfl ?_
  refine m_icmpY K X5.here hx hby (q := 44) d_prog_6_10_37 (feq (by decide : ¬ ((1 : Int32) = (4 : Int32)))).2 (by decide) rfl ?_
  refine m_iconst K X5.here hx hby (0 : Int32) d_prog_6_10_44 rfl rfl ?_
  refine m_ior K X5.here hx hby (u1 ||| (0 : Int32)) d_prog_6_10_45 rfl rfl ?_
  refine k_stZ K X5 hx hby hZ e5 (A_bu.other W4 (Ne.symm ne_x1_bu)) (by decide) (Nat.le_of_ble_eq_true rfl) d_prog_6_10_46 rfl fun T6 h6 X6 e6 W6 V6 => ?_
  replace V6 : Av Z h6 bu .boolean [(.int u0), (.int (nar .boolean (u1 ||| (0 : Int32)))), (.int u2)] := V6
  have N6 := Fr.snoc X6 N4 g_bu
  exact Go.retV X6 hx hby hlk hret d_prog_6_10_47 (by decide) (by decide) (by rw [e6]; exact ⟨u0, (nar .boolean (u1 ||| (0 : Int32))), u2, rfl, N6, (((Keep.refl h0 [x1, bu]).wr W4 (Or.inl (by simp))).wr W6 (Or.inl (by simp))), (V4.other W6 ne_x1_bu), V6⟩)
theorem ef8_1_2 (m : MethodId) (x0 : Addr) (x1 : Int32) : entryFrame m #[(.ref x0), (.int x1)] 3 = mkF m 0 #[.val (.ref x0), .val (.int x1), .unset] [] := by first | (simp [entryFrame, mkF, argsToLocals, Value.category]; done) | rfl
set_option maxRecDepth 65536 in
set_option maxHeartbeats 40000000 in
theorem c8_1_2 (l : Launch) (Z : State) (a0 : Array Value) (hw : ∀ d ∈ tables_1, d.before a0 Z = true) (a1 : Addr) (bo : Addr) (bu : Addr) (x0 : Addr) (x1 : Addr) (x2 : Addr) (u0 : Int32) (u1 : Int32) (u2 : Int32) (h0 : Heap) (n0 : Nat) (Z0 : n0 ≤ h0.size) (E_a1 : Exa Z h0 a1 "com/example/craterworks/craterworks/SharesStation") (F_occupied_a1 : Fld Z h0 a1 "com/example/craterworks/craterworks/SharesStation" "occupied" "[[Z" (.ref bo)) (F_uncovered_a1 : Fld Z h0 a1 "com/example/craterworks/craterworks/SharesStation" "uncovered" "[Z" (.ref bu)) (A_bo : Av Z h0 bo (.array .boolean) [(.ref x0), (.ref x1), (.ref x2)]) (A_x1 : Av Z h0 x1 .boolean [(.int (0 : Int32)), (.int (0 : Int32)), (.int (1 : Int32)), (.int (1 : Int32)), (.int (1 : Int32))]) (A_bu : Av Z h0 bu .boolean [(.int u0), (.int u1), (.int u2)]) (g_x1 : n0 ≤ x1) (g_bu : n0 ≤ bu) (ne_a1_x1 : a1 ≠ x1) (ne_a1_bu : a1 ≠ bu) (ne_bo_x1 : bo ≠ x1) (ne_bo_bu : bo ≠ bu) (ne_x1_bu : x1 ≠ bu) :
    Con l Z (⟨"com/example/craterworks/craterworks/SharesStation", "take", "(I)V"⟩ : MethodName) prog_6_method_10_code 3 none ({ frames := 0, cells := 0, slots := 0, locals := 0 } : Room) [] #[(.ref a1), (.int (1 : Int32))] h0 (fun v h L => ∃ zu0 : Int32, ∃ zu1 : Int32, ∃ zu2 : Int32, v = none ∧ Fr n0 L ∧ Keep h0 h [x1, bu] ∧ Av Z h x1 .boolean [(.int (0 : Int32)), (.int (0 : Int32)), (.int (0 : Int32)), (.int (1 : Int32)), (.int (1 : Int32))] ∧ Av Z h bu .boolean [(.int zu0), (.int zu1), (.int zu2)]) := by
  refine Con.of (plainFor_of_name pn_com_example_craterworks_craterworks_SharesStation) #[.val (.ref a1), .val (.int (1 : Int32)), .unset] (fun m => ef8_1_2 m a1 (1 : Int32)) ?_
  intro p e s m below meth c s₁ K hx hby hml hown hnm hret hlk hZ X0 e0
  have N0 := Fr.nil n0
  refine m_iconst K X0.here hx hby (0 : Int32) d_prog_6_10_0 rfl rfl ?_
  refine m_istoreN K X0.here hx hby #[.val (.ref a1), .val (.int (1 : Int32)), .val (.int (0 : Int32))] d_prog_6_10_1 rfl rfl ?_
  refine m_aloadN K X0.here hx hby d_prog_6_10_2 rfl rfl rfl ?_
  refine k_getF K X0 hx hby hZ hown (host := "") (Or.inl (hw _ (List.mem_of_getElem? (i := 38) rfl))) Via.refl e0 F_occupied_a1 d_prog_6_10_3 rfl fun T1 X1 e1 => ?_
  refine m_iloadN K X1.here hx hby d_prog_6_10_6 rfl rfl ?_
  refine k_ldR K X1 hx hby hZ e1 rfl A_bo (v := (.ref x1)) (by decide) rfl d_prog_6_10_7 rfl ?_
  refine m_iloadN K X1.here hx hby d_prog_6_10_8 rfl rfl ?_
  refine k_ldZ K X1 hx hby hZ e1 A_x1 (v := (.int (0 : Int32))) (by decide) rfl d_prog_6_10_9 rfl ?_
  refine m_ifN K X1.here hx hby (q := 13) d_prog_6_10_10 ((if0 _ _).trans (teq (by decide : (0 : Int32) = (0 : Int32))).2) rfl ?_
  refine m_iinc K X1.here hx hby #[.val (.ref a1), .val (.int (1 : Int32)), .val (.int (1 : Int32))] d_prog_6_10_13 rfl rfl rfl ?_
  refine m_goto K X1.here hx hby (q := 2) d_prog_6_10_16 (by decide) rfl ?_
  refine m_aloadN K X1.here hx hby d_prog_6_10_2 rfl rfl rfl ?_
  refine k_getF K X1 hx hby hZ hown (host := "") (Or.inl (hw _ (List.mem_of_getElem? (i := 38) rfl))) Via.refl e1 F_occupied_a1 d_prog_6_10_3 rfl fun T2 X2 e2 => ?_
  refine m_iloadN K X2.here hx hby d_prog_6_10_6 rfl rfl ?_
  refine k_ldR K X2 hx hby hZ e2 rfl A_bo (v := (.ref x1)) (by decide) rfl d_prog_6_10_7 rfl ?_
  refine m_iloadN K X2.here hx hby d_prog_6_10_8 rfl rfl ?_
  refine k_ldZ K X2 hx hby hZ e2 A_x1 (v := (.int (0 : Int32))) (by decide) rfl d_prog_6_10_9 rfl ?_
  refine m_ifN K X2.here hx hby (q := 13) d_prog_6_10_10 ((if0 _ _).trans (teq (by decide : (0 : Int32) = (0 : Int32))).2) rfl ?_
  refine m_iinc K X2.here hx hby #[.val (.ref a1), .val (.int (1 : Int32)), .val (.int (2 : Int32))] d_prog_6_10_13 rfl rfl rfl ?_
  refine m_goto K X2.here hx hby (q := 2) d_prog_6_10_16 (by decide) rfl ?_
  refine m_aloadN K X2.here hx hby d_prog_6_10_2 rfl rfl rfl ?_
  refine k_getF K X2 hx hby hZ hown (host := "") (Or.inl (hw _ (List.mem_of_getElem? (i := 38) rfl))) Via.refl e2 F_occupied_a1 d_prog_6_10_3 rfl fun T3 X3 e3 => ?_
  refine m_iloadN K X3.here hx hby d_prog_6_10_6 rfl rfl ?_
  refine k_ldR K X3 hx hby hZ e3 rfl A_bo (v := (.ref x1)) (by decide) rfl d_prog_6_10_7 rfl ?_
  refine m_iloadN K X3.here hx hby d_prog_6_10_8 rfl rfl ?_
  refine k_ldZ K X3 hx hby hZ e3 A_x1 (v := (.int (1 : Int32))) (by decide) rfl d_prog_6_10_9 rfl ?_
  refine m_ifY K X3.here hx hby (q := 19) d_prog_6_10_10 ((if0 _ _).trans (feq (by decide : ¬ ((1 : Int32) = (0 : Int32)))).2) (by decide) rfl ?_
  refine m_aloadN K X3.here hx hby d_prog_6_10_19 rfl rfl rfl ?_
  refine k_getF K X3 hx hby hZ hown (host := "") (Or.inl (hw _ (List.mem_of_getElem? (i := 38) rfl))) Via.refl e3 F_occupied_a1 d_prog_6_10_20 rfl fun T4 X4 e4 => ?_
  refine m_iloadN K X4.here hx hby d_prog_6_10_23 rfl rfl ?_
  refine k_ldR K X4 hx hby hZ e4 rfl A_bo (v := (.ref x1)) (by decide) rfl d_prog_6_10_24 rfl ?_
  refine m_iloadN K X4.here hx hby d_prog_6_10_25 rfl rfl ?_
  refine m_iconst K X4.here hx hby (0 : Int32) d_prog_6_10_26 rfl rfl ?_
  refine k_stZ K X4 hx hby hZ e4 A_x1 (by decide) (Nat.le_of_ble_eq_true rfl) d_prog_6_10_27 rfl fun T5 h5 X5 e5 W5 V5 => ?_
  replace V5 : Av Z h5 x1 .boolean [(.int (0 : Int32)), (.int (0 : Int32)), (.int (0 : Int32)), (.int (1 : Int32)), (.int (1 : Int32))] := V5
  have N5 := Fr.snoc X5 N0 g_x1
  refine m_aloadN K X5.here hx hby d_prog_6_10_28 rfl rfl rfl ?_
  refine k_getF K X5 hx hby hZ hown (host := "") (Or.inl (hw _ (List.mem_of_getElem? (i := 40) rfl))) Via.refl e5 (F_uncovered_a1.other W5 (Or.inl ne_a1_x1)) d_prog_6_10_29 rfl fun T6 X6 e6 => ?_
  refine m_iloadN K X6.here hx hby d_prog_6_10_32 rfl rfl ?_
  refine m_dup2 K X6.here hx hby d_prog_6_10_33 rfl rfl rfl ?_
  refine k_ldZ K X6 hx hby hZ e6 (A_bu.other W5 (Ne.symm ne_x1_bu)) (v := (.int u1)) (by decide) rfl d_prog_6_10_34 rfl ?_
  refine m_iloadN K X6.here hx hby d_prog_6_10_35 rfl rfl ?_
  refine m_iconst K X6.here hx hby (4 : Int32) d_prog_6_10_36 rfl rfl ?_
  refine m_icmpY K X6.here hx hby (q := 44) d_prog_6_10_37 (feq (by decide : ¬ ((2 : Int32) = (4 : Int32)))).2 (by decide) rfl ?_
  refine m_iconst K X6.here hx hby (0 : Int32) d_prog_6_10_44 rfl rfl ?_
  refine m_ior K X6.here hx hby (u1 ||| (0 : Int32)) d_prog_6_10_45 rfl rfl ?_
  refine k_stZ K X6 hx hby hZ e6 (A_bu.other W5 (Ne.symm ne_x1_bu)) (by decide) (Nat.le_of_ble_eq_true rfl) d_prog_6_10_46 rfl fun T7 h7 X7 e7 W7 V7 => ?_
  replace V7 : Av Z h7 bu .boolean [(.int u0), (.int (nar .boolean (u1 ||| (0 : Int32)))), (.int u2)] := V7
  have N7 := Fr.snoc X7 N5 g_bu
  exact Go.retV X7 hx hby hlk hret d_prog_6_10_47 (by decide) (by decide) (by rw [e7]; exact ⟨u0, (nar .boolean (u1 ||| (0 : Int32))), u2, rfl, N7, (((Keep.refl h0 [x1, bu]).wr W5 (Or.inl (by simp))).wr W7 (Or.inl (by simp))), (V5.other W7 ne_x1_bu), V7⟩)
theorem ef8_1_3 (m : MethodId) (x0 : Addr) (x1 : Int32) : entryFrame m #[(.ref x0), (.int x1)] 3 = mkF m 0 #[.val (.ref x0), .val (.int x1), .unset] [] := by first | (simp [entryFrame, mkF, argsToLocals, Value.category]; done) | rfl
set_option maxRecDepth 65536 in
set_option maxHeartbeats 40000000 in
theorem c8_1_3 (l : Launch) (Z : State) (a0 : Array Value) (hw : ∀ d ∈ tables_1, d.before a0 Z = true) (a1 : Addr) (bo : Addr) (bu : Addr) (x0 : Addr) (x1 : Addr) (x2 : Addr) (u0 : Int32) (u1 : Int32) (u2 : Int32) (h0 : Heap) (n0 : Nat) (Z0 : n0 ≤ h0.size) (E_a1 : Exa Z h0 a1 "com/example/craterworks/craterworks/SharesStation") (F_occupied_a1 : Fld Z h0 a1 "com/example/craterworks/craterworks/SharesStation" "occupied" "[[Z" (.ref bo)) (F_uncovered_a1 : Fld Z h0 a1 "com/example/craterworks/craterworks/SharesStation" "uncovered" "[Z" (.ref bu)) (A_bo : Av Z h0 bo (.array .boolean) [(.ref x0), (.ref x1), (.ref x2)]) (A_x1 : Av Z h0 x1 .boolean [(.int (0 : Int32)), (.int (0 : Int32)), (.int (0 : Int32)), (.int (1 : Int32)), (.int (1 : Int32))]) (A_bu : Av Z h0 bu .boolean [(.int u0), (.int u1), (.int u2)]) (g_x1 : n0 ≤ x1) (g_bu : n0 ≤ bu) (ne_a1_x1 : a1 ≠ x1) (ne_a1_bu : a1 ≠ bu) (ne_bo_x1 : bo ≠ x1) (ne_bo_bu : bo ≠ bu) (ne_x1_bu : x1 ≠ bu) :
    Con l Z (⟨"com/example/craterworks/craterworks/SharesStation", "take", "(I)V"⟩ : MethodName) prog_6_method_10_code 3 none ({ frames := 0, cells := 0, slots := 0, locals := 0 } : Room) [] #[(.ref a1), (.int (1 : Int32))] h0 (fun v h L => ∃ zu0 : Int32, ∃ zu1 : Int32, ∃ zu2 : Int32, v = none ∧ Fr n0 L ∧ Keep h0 h [x1, bu] ∧ Av Z h x1 .boolean [(.int (0 : Int32)), (.int (0 : Int32)), (.int (0 : Int32)), (.int (0 : Int32)), (.int (1 : Int32))] ∧ Av Z h bu .boolean [(.int zu0), (.int zu1), (.int zu2)]) := by
  refine Con.of (plainFor_of_name pn_com_example_craterworks_craterworks_SharesStation) #[.val (.ref a1), .val (.int (1 : Int32)), .unset] (fun m => ef8_1_3 m a1 (1 : Int32)) ?_
  intro p e s m below meth c s₁ K hx hby hml hown hnm hret hlk hZ X0 e0
  have N0 := Fr.nil n0
  refine m_iconst K X0.here hx hby (0 : Int32) d_prog_6_10_0 rfl rfl ?_
  refine m_istoreN K X0.here hx hby #[.val (.ref a1), .val (.int (1 : Int32)), .val (.int (0 : Int32))] d_prog_6_10_1 rfl rfl ?_
  refine m_aloadN K X0.here hx hby d_prog_6_10_2 rfl rfl rfl ?_
  refine k_getF K X0 hx hby hZ hown (host := "") (Or.inl (hw _ (List.mem_of_getElem? (i := 38) rfl))) Via.refl e0 F_occupied_a1 d_prog_6_10_3 rfl fun T1 X1 e1 => ?_
  refine m_iloadN K X1.here hx hby d_prog_6_10_6 rfl rfl ?_
  refine k_ldR K X1 hx hby hZ e1 rfl A_bo (v := (.ref x1)) (by decide) rfl d_prog_6_10_7 rfl ?_
  refine m_iloadN K X1.here hx hby d_prog_6_10_8 rfl rfl ?_
  refine k_ldZ K X1 hx hby hZ e1 A_x1 (v := (.int (0 : Int32))) (by decide) rfl d_prog_6_10_9 rfl ?_
  refine m_ifN K X1.here hx hby (q := 13) d_prog_6_10_10 ((if0 _ _).trans (teq (by decide : (0 : Int32) = (0 : Int32))).2) rfl ?_
  refine m_iinc K X1.here hx hby #[.val (.ref a1), .val (.int (1 : Int32)), .val (.int (1 : Int32))] d_prog_6_10_13 rfl rfl rfl ?_
  refine m_goto K X1.here hx hby (q := 2) d_prog_6_10_16 (by decide) rfl ?_
  refine m_aloadN K X1.here hx hby d_prog_6_10_2 rfl rfl rfl ?_
  refine k_getF K X1 hx hby hZ hown (host := "") (Or.inl (hw _ (List.mem_of_getElem? (i := 38) rfl))) Via.refl e1 F_occupied_a1 d_prog_6_10_3 rfl fun T2 X2 e2 => ?_
  refine m_iloadN K X2.here hx hby d_prog_6_10_6 rfl rfl ?_
  refine k_ldR K X2 hx hby hZ e2 rfl A_bo (v := (.ref x1)) (by decide) rfl d_prog_6_10_7 rfl ?_
  refine m_iloadN K X2.here hx hby d_prog_6_10_8 rfl rfl ?_
  refine k_ldZ K X2 hx hby hZ e2 A_x1 (v := (.int (0 : Int32))) (by decide) rfl d_prog_6_10_9 rfl ?_
  refine m_ifN K X2.here hx hby (q := 13) d_prog_6_10_10 ((if0 _ _).trans (teq (by decide : (0 : Int32) = (0 : Int32))).2) rfl ?_
  refine m_iinc K X2.here hx hby #[.val (.ref a1), .val (.int (1 : Int32)), .val (.int (2 : Int32))] d_prog_6_10_13 rfl rfl rfl ?_
  refine m_goto K X2.here hx hby (q := 2) d_prog_6_10_16 (by decide) rfl ?_
  refine m_aloadN K X2.here hx hby d_prog_6_10_2 rfl rfl rfl ?_
  refine k_getF K X2 hx hby hZ hown (host := "") (Or.inl (hw _ (List.mem_of_getElem? (i := 38) rfl))) Via.refl e2 F_occupied_a1 d_prog_6_10_3 rfl fun T3 X3 e3 => ?_
  refine m_iloadN K X3.here hx hby d_prog_6_10_6 rfl rfl ?_
  refine k_ldR K X3 hx hby hZ e3 rfl A_bo (v := (.ref x1)) (by decide) rfl d_prog_6_10_7 rfl ?_
  refine m_iloadN K X3.here hx hby d_prog_6_10_8 rfl rfl ?_
  refine k_ldZ K X3 hx hby hZ e3 A_x1 (v := (.int (0 : Int32))) (by decide) rfl d_prog_6_10_9 rfl ?_
  refine m_ifN K X3.here hx hby (q := 13) d_prog_6_10_10 ((if0 _ _).trans (teq (by decide : (0 : Int32) = (0 : Int32))).2) rfl ?_
  refine m_iinc K X3.here hx hby #[.val (.ref a1), .val (.int (1 : Int32)), .val (.int (3 : Int32))] d_prog_6_10_13 rfl rfl rfl ?_
  refine m_goto K X3.here hx hby (q := 2) d_prog_6_10_16 (by decide) rfl ?_
  refine m_aloadN K X3.here hx hby d_prog_6_10_2 rfl rfl rfl ?_
  refine k_getF K X3 hx hby hZ hown (host := "") (Or.inl (hw _ (List.mem_of_getElem? (i := 38) rfl))) Via.refl e3 F_occupied_a1 d_prog_6_10_3 rfl fun T4 X4 e4 => ?_
  refine m_iloadN K X4.here hx hby d_prog_6_10_6 rfl rfl ?_
  refine k_ldR K X4 hx hby hZ e4 rfl A_bo (v := (.ref x1)) (by decide) rfl d_prog_6_10_7 rfl ?_
  refine m_iloadN K X4.here hx hby d_prog_6_10_8 rfl rfl ?_
  refine k_ldZ K X4 hx hby hZ e4 A_x1 (v := (.int (1 : Int32))) (by decide) rfl d_prog_6_10_9 rfl ?_
  refine m_ifY K X4.here hx hby (q := 19) d_prog_6_10_10 ((if0 _ _).trans (feq (by decide : ¬ ((1 : Int32) = (0 : Int32)))).2) (by decide) rfl ?_
  refine m_aloadN K X4.here hx hby d_prog_6_10_19 rfl rfl rfl ?_
  refine k_getF K X4 hx hby hZ hown (host := "") (Or.inl (hw _ (List.mem_of_getElem? (i := 38) rfl))) Via.refl e4 F_occupied_a1 d_prog_6_10_20 rfl fun T5 X5 e5 => ?_
  refine m_iloadN K X5.here hx hby d_prog_6_10_23 rfl rfl ?_
  refine k_ldR K X5 hx hby hZ e5 rfl A_bo (v := (.ref x1)) (by decide) rfl d_prog_6_10_24 rfl ?_
  refine m_iloadN K X5.here hx hby d_prog_6_10_25 rfl rfl ?_
  refine m_iconst K X5.here hx hby (0 : Int32) d_prog_6_10_26 rfl rfl ?_
  refine k_stZ K X5 hx hby hZ e5 A_x1 (by decide) (Nat.le_of_ble_eq_true rfl) d_prog_6_10_27 rfl fun T6 h6 X6 e6 W6 V6 => ?_
  replace V6 : Av Z h6 x1 .boolean [(.int (0 : Int32)), (.int (0 : Int32)), (.int (0 : Int32)), (.int (0 : Int32)), (.int (1 : Int32))] := V6
  have N6 := Fr.snoc X6 N0 g_x1
  refine m_aloadN K X6.here hx hby d_prog_6_10_28 rfl rfl rfl ?_
  refine k_getF K X6 hx hby hZ hown (host := "") (Or.inl (hw _ (List.mem_of_getElem? (i := 40) rfl))) Via.refl e6 (F_uncovered_a1.other W6 (Or.inl ne_a1_x1)) d_prog_6_10_29 rfl fun T7 X7 e7 => ?_
  refine m_iloadN K X7.here hx hby d_prog_6_10_32 rfl rfl ?_
  refine m_dup2 K X7.here hx hby d_prog_6_10_33 rfl rfl rfl ?_
  refine k_ldZ K X7 hx hby hZ e7 (A_bu.other W6 (Ne.symm ne_x1_bu)) (v := (.int u1)) (by decide) rfl d_prog_6_10_34 rfl ?_
  refine m_iloadN K X7.here hx hby d_prog_6_10_35 rfl rfl ?_
  refine m_iconst K X7.here hx hby (4 : Int32) d_prog_6_10_36 rfl rfl ?_
  refine m_icmpY K X7.here hx hby (q := 44) d_prog_6_10_37 (feq (by decide : ¬ ((3 : Int32) = (4 : Int32)))).2 (by decide) rfl ?_
  refine m_iconst K X7.here hx hby (0 : Int32) d_prog_6_10_44 rfl rfl ?_
  refine m_ior K X7.here hx hby (u1 ||| (0 : Int32)) d_prog_6_10_45 rfl rfl ?_
  refine k_stZ K X7 hx hby hZ e7 (A_bu.other W6 (Ne.symm ne_x1_bu)) (by decide) (Nat.le_of_ble_eq_true rfl) d_prog_6_10_46 rfl fun T8 h8 X8 e8 W8 V8 => ?_
  replace V8 : Av Z h8 bu .boolean [(.int u0), (.int (nar .boolean (u1 ||| (0 : Int32)))), (.int u2)] := V8
  have N8 := Fr.snoc X8 N6 g_bu
  exact Go.retV X8 hx hby hlk hret d_prog_6_10_47 (by decide) (by decide) (by rw [e8]; exact ⟨u0, (nar .boolean (u1 ||| (0 : Int32))), u2, rfl, N8, (((Keep.refl h0 [x1, bu]).wr W6 (Or.inl (by simp))).wr W8 (Or.inl (by simp))), (V6.other W8 ne_x1_bu), V8⟩)
theorem ef8_1_4 (m : MethodId) (x0 : Addr) (x1 : Int32) : entryFrame m #[(.ref x0), (.int x1)] 3 = mkF m 0 #[.val (.ref x0), .val (.int x1), .unset] [] := by first | (simp [entryFrame, mkF, argsToLocals, Value.category]; done) | rfl
set_option maxRecDepth 65536 in
set_option maxHeartbeats 40000000 in
theorem c8_1_4 (l : Launch) (Z : State) (a0 : Array Value) (hw : ∀ d ∈ tables_1, d.before a0 Z = true) (a1 : Addr) (bo : Addr) (bu : Addr) (x0 : Addr) (x1 : Addr) (x2 : Addr) (u0 : Int32) (u1 : Int32) (u2 : Int32) (h0 : Heap) (n0 : Nat) (Z0 : n0 ≤ h0.size) (E_a1 : Exa Z h0 a1 "com/example/craterworks/craterworks/SharesStation") (F_occupied_a1 : Fld Z h0 a1 "com/example/craterworks/craterworks/SharesStation" "occupied" "[[Z" (.ref bo)) (F_uncovered_a1 : Fld Z h0 a1 "com/example/craterworks/craterworks/SharesStation" "uncovered" "[Z" (.ref bu)) (A_bo : Av Z h0 bo (.array .boolean) [(.ref x0), (.ref x1), (.ref x2)]) (A_x1 : Av Z h0 x1 .boolean [(.int (0 : Int32)), (.int (0 : Int32)), (.int (0 : Int32)), (.int (0 : Int32)), (.int (1 : Int32))]) (A_bu : Av Z h0 bu .boolean [(.int u0), (.int u1), (.int u2)]) (g_x1 : n0 ≤ x1) (g_bu : n0 ≤ bu) (ne_a1_x1 : a1 ≠ x1) (ne_a1_bu : a1 ≠ bu) (ne_bo_x1 : bo ≠ x1) (ne_bo_bu : bo ≠ bu) (ne_x1_bu : x1 ≠ bu) :
    Con l Z (⟨"com/example/craterworks/craterworks/SharesStation", "take", "(I)V"⟩ : MethodName) prog_6_method_10_code 3 none ({ frames := 0, cells := 0, slots := 0, locals := 0 } : Room) [] #[(.ref a1), (.int (1 : Int32))] h0 (fun v h L => ∃ zu0 : Int32, ∃ zu1 : Int32, ∃ zu2 : Int32, v = none ∧ Fr n0 L ∧ Keep h0 h [x1, bu] ∧ Av Z h x1 .boolean [(.int (0 : Int32)), (.int (0 : Int32)), (.int (0 : Int32)), (.int (0 : Int32)), (.int (0 : Int32))] ∧ Av Z h bu .boolean [(.int zu0), (.int zu1), (.int zu2)]) := by
  refine Con.of (plainFor_of_name pn_com_example_craterworks_craterworks_SharesStation) #[.val (.ref a1), .val (.int (1 : Int32)), .unset] (fun m => ef8_1_4 m a1 (1 : Int32)) ?_
  intro p e s m below meth c s₁ K hx hby hml hown hnm hret hlk hZ X0 e0
  have N0 := Fr.nil n0
  refine m_iconst K X0.here hx hby (0 : Int32) d_prog_6_10_0 rfl rfl ?_
  refine m_istoreN K X0.here hx hby #[.val (.ref a1), .val (.int (1 : Int32)), .val (.int (0 : Int32))] d_prog_6_10_1 rfl rfl ?_
  refine m_aloadN K X0.here hx hby d_prog_6_10_2 rfl rfl rfl ?_
  refine k_getF K X0 hx hby hZ hown (host := "") (Or.inl (hw _ (List.mem_of_getElem? (i := 38) rfl))) Via.refl e0 F_occupied_a1 d_prog_6_10_3 rfl fun T1 X1 e1 => ?_
  refine m_iloadN K X1.here hx hby d_prog_6_10_6 rfl rfl ?_
  refine k_ldR K X1 hx hby hZ e1 rfl A_bo (v := (.ref x1)) (by decide) rfl d_prog_6_10_7 rfl ?_
  refine m_iloadN K X1.here hx hby d_prog_6_10_8 rfl rfl ?_
  refine k_ldZ K X1 hx hby hZ e1 A_x1 (v := (.int (0 : Int32))) (by decide) rfl d_prog_6_10_9 rfl ?_
  refine m_ifN K X1.here hx hby (q := 13) d_prog_6_10_10 ((if0 _ _).trans (teq (by decide : (0 : Int32) = (0 : Int32))).2) rfl ?_
  refine m_iinc K X1.here hx hby #[.val (.ref a1), .val (.int (1 : Int32)), .val (.int (1 : Int32))] d_prog_6_10_13 rfl rfl rfl ?_
  refine m_goto K X1.here hx hby (q := 2) d_prog_6_10_16 (by decide) rfl ?_
  refine m_aloadN K X1.here hx hby d_prog_6_10_2 rfl rfl rfl ?_
  refine k_getF K X1 hx hby hZ hown (host := "") (Or.inl (hw _ (List.mem_of_getElem? (i := 38) rfl))) Via.refl e1 F_occupied_a1 d_prog_6_10_3 rfl fun T2 X2 e2 => ?_
  refine m_iloadN K X2.here hx hby d_prog_6_10_6 rfl rfl ?_
  refine k_ldR K X2 hx hby hZ e2 rfl A_bo (v := (.ref x1)) (by decide) rfl d_prog_6_10_7 rfl ?_
  refine m_iloadN K X2.here hx hby d_prog_6_10_8 rfl rfl ?_
  refine k_ldZ K X2 hx hby hZ e2 A_x1 (v := (.int (0 : Int32))) (by decide) rfl d_prog_6_10_9 rfl ?_
  refine m_ifN K X2.here hx hby (q := 13) d_prog_6_10_10 ((if0 _ _).trans (teq (by decide : (0 : Int32) = (0 : Int32))).2) rfl ?_
  refine m_iinc K X2.here hx hby #[.val (.ref a1), .val (.int (1 : Int32)), .val (.int (2 : Int32))] d_prog_6_10_13 rfl rfl rfl ?_
  refine m_goto K X2.here hx hby (q := 2) d_prog_6_10_16 (by decide) rfl ?_
  refine m_aloadN K X2.here hx hby d_prog_6_10_2 rfl rfl rfl ?_
  refine k_getF K X2 hx hby hZ hown (host := "") (Or.inl (hw _ (List.mem_of_getElem? (i := 38) rfl))) Via.refl e2 F_occupied_a1 d_prog_6_10_3 rfl fun T3 X3 e3 => ?_
  refine m_iloadN K X3.here hx hby d_prog_6_10_6 rfl rfl ?_
  refine k_ldR K X3 hx hby hZ e3 rfl A_bo (v := (.ref x1)) (by decide) rfl d_prog_6_10_7 rfl ?_
  refine m_iloadN K X3.here hx hby d_prog_6_10_8 rfl rfl ?_
  refine k_ldZ K X3 hx hby hZ e3 A_x1 (v := (.int (0 : Int32))) (by decide) rfl d_prog_6_10_9 rfl ?_
  refine m_ifN K X3.here hx hby (q := 13) d_prog_6_10_10 ((if0 _ _).trans (teq (by decide : (0 : Int32) = (0 : Int32))).2) rfl ?_
  refine m_iinc K X3.here hx hby #[.val (.ref a1), .val (.int (1 : Int32)), .val (.int (3 : Int32))] d_prog_6_10_13 rfl rfl rfl ?_
  refine m_goto K X3.here hx hby (q := 2) d_prog_6_10_16 (by decide) rfl ?_
  refine m_aloadN K X3.here hx hby d_prog_6_10_2 rfl rfl rfl ?_
  refine k_getF K X3 hx hby hZ hown (host := "") (Or.inl (hw _ (List.mem_of_getElem? (i := 38) rfl))) Via.refl e3 F_occupied_a1 d_prog_6_10_3 rfl fun T4 X4 e4 => ?_
  refine m_iloadN K X4.here hx hby d_prog_6_10_6 rfl rfl ?_
  refine k_ldR K X4 hx hby hZ e4 rfl A_bo (v := (.ref x1)) (by decide) rfl d_prog_6_10_7 rfl ?_
  refine m_iloadN K X4.here hx hby d_prog_6_10_8 rfl rfl ?_
  refine k_ldZ K X4 hx hby hZ e4 A_x1 (v := (.int (0 : Int32))) (by decide) rfl d_prog_6_10_9 rfl ?_
  refine m_ifN K X4.here hx hby (q := 13) d_prog_6_10_10 ((if0 _ _).trans (teq (by decide : (0 : Int32) = (0 : Int32))).2) rfl ?_
  refine m_iinc K X4.here hx hby #[.val (.ref a1), .val (.int (1 : Int32)), .val (.int (4 : Int32))] d_prog_6_10_13 rfl rfl rfl ?_
  refine m_goto K X4.here hx hby (q := 2) d_prog_6_10_16 (by decide) rfl ?_
  refine m_aloadN K X4.here hx hby d_prog_6_10_2 rfl rfl rfl ?_
  refine k_getF K X4 hx hby hZ hown (host := "") (Or.inl (hw _ (List.mem_of_getElem? (i := 38) rfl))) Via.refl e4 F_occupied_a1 d_prog_6_10_3 rfl fun T5 X5 e5 => ?_
  refine m_iloadN K X5.here hx hby d_prog_6_10_6 rfl rfl ?_
  refine k_ldR K X5 hx hby hZ e5 rfl A_bo (v := (.ref x1)) (by decide) rfl d_prog_6_10_7 rfl ?_
  refine m_iloadN K X5.here hx hby d_prog_6_10_8 rfl rfl ?_
  refine k_ldZ K X5 hx hby hZ e5 A_x1 (v := (.int (1 : Int32))) (by decide) rfl d_prog_6_10_9 rfl ?_
  refine m_ifY K X5.here hx hby (q := 19) d_prog_6_10_10 ((if0 _ _).trans (feq (by decide : ¬ ((1 : Int32) = (0 : Int32)))).2) (by decide) rfl ?_
  refine m_aloadN K X5.here hx hby d_prog_6_10_19 rfl rfl rfl ?_
  refine k_getF K X5 hx hby hZ hown (host := "") (Or.inl (hw _ (List.mem_of_getElem? (i := 38) rfl))) Via.refl e5 F_occupied_a1 d_prog_6_10_20 rfl fun T6 X6 e6 => ?_
  refine m_iloadN K X6.here hx hby d_prog_6_10_23 rfl rfl ?_
  refine k_ldR K X6 hx hby hZ e6 rfl A_bo (v := (.ref x1)) (by decide) rfl d_prog_6_10_24 rfl ?_
  refine m_iloadN K X6.here hx hby d_prog_6_10_25 rfl rfl ?_
  refine m_iconst K X6.here hx hby (0 : Int32) d_prog_6_10_26 rfl rfl ?_
  refine k_stZ K X6 hx hby hZ e6 A_x1 (by decide) (Nat.le_of_ble_eq_true rfl) d_prog_6_10_27 rfl fun T7 h7 X7 e7 W7 V7 => ?_
  replace V7 : Av Z h7 x1 .boolean [(.int (0 : Int32)), (.int (0 : Int32)), (.int (0 : Int32)), (.int (0 : Int32)), (.int (0 : Int32))] := V7
  have N7 := Fr.snoc X7 N0 g_x1
  refine m_aloadN K X7.here hx hby d_prog_6_10_28 rfl rfl rfl ?_
  refine k_getF K X7 hx hby hZ hown (host := "") (Or.inl (hw _ (List.mem_of_getElem? (i := 40) rfl))) Via.refl e7 (F_uncovered_a1.other W7 (Or.inl ne_a1_x1)) d_prog_6_10_29 rfl fun T8 X8 e8 => ?_
  refine m_iloadN K X8.here hx hby d_prog_6_10_32 rfl rfl ?_
  refine m_dup2 K X8.here hx hby d_prog_6_10_33 rfl rfl rfl ?_
  refine k_ldZ K X8 hx hby hZ e8 (A_bu.other W7 (Ne.symm ne_x1_bu)) (v := (.int u1)) (by decide) rfl d_prog_6_10_34 rfl ?_
  refine m_iloadN K X8.here hx hby d_prog_6_10_35 rfl rfl ?_
  refine m_iconst K X8.here hx hby (4 : Int32) d_prog_6_10_36 rfl rfl ?_
  refine m_icmpN K X8.here hx hby (q := 40) d_prog_6_10_37 (teq (by decide : (4 : Int32) = (4 : Int32))).2 rfl ?_
  refine m_iconst K X8.here hx hby (1 : Int32) d_prog_6_10_40 rfl rfl ?_
  refine m_goto K X8.here hx hby (q := 45) d_prog_6_10_41 (by decide) rfl ?_
  refine m_ior K X8.here hx hby (u1 ||| (1 : Int32)) d_prog_6_10_45 rfl rfl ?_
  refine k_stZ K X8 hx hby hZ e8 (A_bu.other W7 (Ne.symm ne_x1_bu)) (by decide) (Nat.le_of_ble_eq_true rfl) d_prog_6_10_46 rfl fun T9 h9 X9 e9 W9 V9 => ?_
  replace V9 : Av Z h9 bu .boolean [(.int u0), (.int (nar .boolean (u1 ||| (1 : Int32)))), (.int u2)] := V9
  have N9 := Fr.snoc X9 N7 g_bu
  exact Go.retV X9 hx hby hlk hret d_prog_6_10_47 (by decide) (by decide) (by rw [e9]; exact ⟨u0, (nar .boolean (u1 ||| (1 : Int32))), u2, rfl, N9, (((Keep.refl h0 [x1, bu]).wr W7 (Or.inl (by simp))).wr W9 (Or.inl (by simp))), (V7.other W9 ne_x1_bu), V9⟩)
theorem ef8_2_0 (m : MethodId) (x0 : Addr) (x1 : Int32) : entryFrame m #[(.ref x0), (.int x1)] 3 = mkF m 0 #[.val (.ref x0), .val (.int x1), .unset] [] := by first | (simp [entryFrame, mkF, argsToLocals, Value.category]; done) | rfl
set_option maxRecDepth 65536 in
set_option maxHeartbeats 40000000 in
theorem c8_2_0 (l : Launch) (Z : State) (a0 : Array Value) (hw : ∀ d ∈ tables_1, d.before a0 Z = true) (a1 : Addr) (bo : Addr) (bu : Addr) (x0 : Addr) (x1 : Addr) (x2 : Addr) (u0 : Int32) (u1 : Int32) (u2 : Int32) (h0 : Heap) (n0 : Nat) (Z0 : n0 ≤ h0.size) (E_a1 : Exa Z h0 a1 "com/example/craterworks/craterworks/SharesStation") (F_occupied_a1 : Fld Z h0 a1 "com/example/craterworks/craterworks/SharesStation" "occupied" "[[Z" (.ref bo)) (F_uncovered_a1 : Fld Z h0 a1 "com/example/craterworks/craterworks/SharesStation" "uncovered" "[Z" (.ref bu)) (A_bo : Av Z h0 bo (.array .boolean) [(.ref x0), (.ref x1), (.ref x2)]) (A_x2 : Av Z h0 x2 .boolean [(.int (1 : Int32)), (.int (1 : Int32)), (.int (1 : Int32)), (.int (1 : Int32)), (.int (1 : Int32))]) (A_bu : Av Z h0 bu .boolean [(.int u0), (.int u1), (.int u2)]) (g_x2 : n0 ≤ x2) (g_bu : n0 ≤ bu) (ne_a1_x2 : a1 ≠ x2) (ne_a1_bu : a1 ≠ bu) (ne_bo_x2 : bo ≠ x2) (ne_bo_bu : bo ≠ bu) (ne_x2_bu : x2 ≠ bu) :
    Con l Z (⟨"com/example/craterworks/craterworks/SharesStation", "take", "(I)V"⟩ : MethodName) prog_6_method_10_code 3 none ({ frames := 0, cells := 0, slots := 0, locals := 0 } : Room) [] #[(.ref a1), (.int (2 : Int32))] h0 (fun v h L => ∃ zu0 : Int32, ∃ zu1 : Int32, ∃ zu2 : Int32, v = none ∧ Fr n0 L ∧ Keep h0 h [x2, bu] ∧ Av Z h x2 .boolean [(.int (0 : Int32)), (.int (1 : Int32)), (.int (1 : Int32)), (.int (1 : Int32)), (.int (1 : Int32))] ∧ Av Z h bu .boolean [(.int zu0), (.int zu1), (.int zu2)]) := by
  refine Con.of (plainFor_of_name pn_com_example_craterworks_craterworks_SharesStation) #[.val (.ref a1), .val (.int (2 : Int32)), .unset] (fun m => ef8_2_0 m a1 (2 : Int32)) ?_
  intro p e s m below meth c s₁ K hx hby hml hown hnm hret hlk hZ X0 e0
  have N0 := Fr.nil n0
  refine m_iconst K X0.here hx hby (0 : Int32) d_prog_6_10_0 rfl rfl ?_
  refine m_istoreN K X0.here hx hby #[.val (.ref a1), .val (.int (2 : Int32)), .val (.int (0 : Int32))] d_prog_6_10_1 rfl rfl ?_
  refine m_aloadN K X0.here hx hby d_prog_6_10_2 rfl rfl rfl ?_
  refine k_getF K X0 hx hby hZ hown (host := "") (Or.inl (hw _ (List.mem_of_getElem? (i := 38) rfl))) Via.refl e0 F_occupied_a1 d_prog_6_10_3 rfl fun T1 X1 e1 => ?_
  refine m_iloadN K X1.here hx hby d_prog_6_10_6 rfl rfl ?_
  refine k_ldR K X1 hx hby hZ e1 rfl A_bo (v := (.ref x2)) (by decide) rfl d_prog_6_10_7 rfl ?_
  refine m_iloadN K X1.here hx hby d_prog_6_10_8 rfl rfl ?_
  refine k_ldZ K X1 hx hby hZ e1 A_x2 (v := (.int (1 : Int32))) (by decide) rfl d_prog_6_10_9 rfl ?_
  refine m_ifY K X1.here hx hby (q := 19) d_prog_6_10_10 ((if0 _ _).trans (feq (by decide : ¬ ((1 : Int32) = (0 : Int32)))).2) (by decide) rfl ?_
  refine m_aloadN K X1.here hx hby d_prog_6_10_19 rfl rfl rfl ?_
  refine k_getF K X1 hx hby hZ hown (host := "") (Or.inl (hw _ (List.mem_of_getElem? (i := 38) rfl))) Via.refl e1 F_occupied_a1 d_prog_6_10_20 rfl fun T2 X2 e2 => ?_
  refine m_iloadN K X2.here hx hby d_prog_6_10_23 rfl rfl ?_
  refine k_ldR K X2 hx hby hZ e2 rfl A_bo (v := (.ref x2)) (by decide) rfl d_prog_6_10_24 rfl ?_
  refine m_iloadN K X2.here hx hby d_prog_6_10_25 rfl rfl ?_
  refine m_iconst K X2.here hx hby (0 : Int32) d_prog_6_10_26 rfl rfl ?_
  refine k_stZ K X2 hx hby hZ e2 A_x2 (by decide) (Nat.le_of_ble_eq_true rfl) d_prog_6_10_27 rfl fun T3 h3 X3 e3 W3 V3 => ?_
  replace V3 : Av Z h3 x2 .boolean [(.int (0 : Int32)), (.int (1 : Int32)), (.int (1 : Int32)), (.int (1 : Int32)), (.int (1 : Int32))] := V3
  have N3 := Fr.snoc X3 N0 g_x2
  refine m_aloadN K X3.here hx hby d_prog_6_10_28 rfl rfl rfl ?_
  refine k_getF K X3 hx hby hZ hown (host := "") (Or.inl (hw _ (List.mem_of_getElem? (i := 40) rfl))) Via.refl e3 (F_uncovered_a1.other W3 (Or.inl ne_a1_x2)) d_prog_6_10_29 rfl fun T4 X4 e4 => ?_
  refine m_iloadN K X4.here hx hby d_prog_6_10_32 rfl rfl ?_
  refine m_dup2 K X4.here hx hby d_prog_6_10_33 rfl rfl rfl ?_
  refine k_ldZ K X4 hx hby hZ e4 (A_bu.other W3 (Ne.symm ne_x2_bu)) (v := (.int u2)) (by decide) rfl d_prog_6_10_34 rfl ?_
  refine m_iloadN K X4.here hx hby d_prog_6_10_35 rfl rfl ?_
  refine m_iconst K X4.here hx hby (4 : Int32) d_prog_6_10_36 rfl rfl ?_
  refine m_icmpY K X4.here hx hby (q := 44) d_prog_6_10_37 (feq (by decide : ¬ ((0 : Int32) = (4 : Int32)))).2 (by decide) rfl ?_
  refine m_iconst K X4.here hx hby (0 : Int32) d_prog_6_10_44 rfl rfl ?_
  refine m_ior K X4.here hx hby (u2 ||| (0 : Int32)) d_prog_6_10_45 rfl rfl ?_
  refine k_stZ K X4 hx hby hZ e4 (A_bu.other W3 (Ne.symm ne_x2_bu)) (by decide) (Nat.le_of_ble_eq_true rfl) d_prog_6_10_46 rfl fun T5 h5 X5 e5 W5 V5 => ?_
  replace V5 : Av Z h5 bu .boolean [(.int u0), (.int u1), (.int (nar .boolean (u2 ||| (0 : Int32))))] := V5
  have N5 := Fr.snoc X5 N3 g_bu
  exact Go.retV X5 hx hby hlk hret d_prog_6_10_47 (by decide) (by decide) (by rw [e5]; exact ⟨u0, u1, (nar .boolean (u2 ||| (0 : Int32))), rfl, N5, (((Keep.refl h0 [x2, bu]).wr W3 (Or.inl (by simp))).wr W5 (Or.inl (by simp))), (V3.other W5 ne_x2_bu), V5⟩)
theorem ef8_2_1 (m : MethodId) (x0 : Addr) (x1 : Int32) : entryFrame m #[(.ref x0), (.int x1)] 3 = mkF m 0 #[.val (.ref x0), .val (.int x1), .unset] [] := by first | (simp [entryFrame, mkF, argsToLocals, Value.category]; done) | rfl
set_option maxRecDepth 65536 in
set_option maxHeartbeats 40000000 in
theorem c8_2_1 (l : Launch) (Z : State) (a0 : Array Value) (hw : ∀ d ∈ tables_1, d.before a0 Z = true) (a1 : Addr) (bo : Addr) (bu : Addr) (x0 : Addr) (x1 : Addr) (x2 : Addr) (u0 : Int32) (u1 : Int32) (u2 : Int32) (h0 : Heap) (n0 : Nat) (Z0 : n0 ≤ h0.size) (E_a1 : Exa Z h0 a1 "com/example/craterworks/craterworks/SharesStation") (F_occupied_a1 : Fld Z h0 a1 "com/example/craterworks/craterworks/SharesStation" "occupied" "[[Z" (.ref bo)) (F_uncovered_a1 : Fld Z h0 a1 "com/example/craterworks/craterworks/SharesStation" "uncovered" "[Z" (.ref bu)) (A_bo : Av Z h0 bo (.array .boolean) [(.ref x0), (.ref x1), (.ref x2)]) (A_x2 : Av Z h0 x2 .boolean [(.int (0 : Int32)), (.int (1 : Int32)), (.int (1 : Int32)), (.int (1 : Int32)), (.int (1 : Int32))]) (A_bu : Av Z h0 bu .boolean [(.int u0), (.int u1), (.int u2)]) (g_x2 : n0 ≤ x2) (g_bu : n0 ≤ bu) (ne_a1_x2 : a1 ≠ x2) (ne_a1_bu : a1 ≠ bu) (ne_bo_x2 : bo ≠ x2) (ne_bo_bu : bo ≠ bu) (ne_x2_bu : x2 ≠ bu) :
    Con l Z (⟨"com/example/craterworks/craterworks/SharesStation", "take", "(I)V"⟩ : MethodName) prog_6_method_10_code 3 none ({ frames := 0, cells := 0, slots := 0, locals := 0 } : Room) [] #[(.ref a1), (.int (2 : Int32))] h0 (fun v h L => ∃ zu0 : Int32, ∃ zu1 : Int32, ∃ zu2 : Int32, v = none ∧ Fr n0 L ∧ Keep h0 h [x2, bu] ∧ Av Z h x2 .boolean [(.int (0 : Int32)), (.int (0 : Int32)), (.int (1 : Int32)), (.int (1 : Int32)), (.int (1 : Int32))] ∧ Av Z h bu .boolean [(.int zu0), (.int zu1), (.int zu2)]) := by
  refine Con.of (plainFor_of_name pn_com_example_craterworks_craterworks_SharesStation) #[.val (.ref a1), .val (.int (2 : Int32)), .unset] (fun m => ef8_2_1 m a1 (2 : Int32)) ?_
  intro p e s m below meth c s₁ K hx hby hml hown hnm hret hlk hZ X0 e0
  have N0 := Fr.nil n0
  refine m_iconst K X0.here hx hby (0 : Int32) d_prog_6_10_0 rfl rfl ?_
  refine m_istoreN K X0.here hx hby #[.val (.ref a1), .val (.int (2 : Int32)), .val (.int (0 : Int32))] d_prog_6_10_1 rfl rfl ?_
  refine m_aloadN K X0.here hx hby d_prog_6_10_2 rfl rfl rfl ?_
  refine k_getF K X0 hx hby hZ hown (host := "") (Or.inl (hw _ (List.mem_of_getElem? (i := 38) rfl))) Via.refl e0 F_occupied_a1 d_prog_6_10_3 rfl fun T1 X1 e1 => ?_
  refine m_iloadN K X1.here hx hby d_prog_6_10_6 rfl rfl ?_
  refine k_ldR K X1 hx hby hZ e1 rfl A_bo (v := (.ref x2)) (by decide) rfl d_prog_6_10_7 rfl ?_
  refine m_iloadN K X1.here hx hby d_prog_6_10_8 rfl rfl ?_
  refine k_ldZ K X1 hx hby hZ e1 A_x2 (v := (.int (0 : Int32))) (by decide) rfl d_prog_6_10_9 rfl ?_
  refine m_ifN K X1.here hx hby (q := 13) d_prog_6_10_10 ((if0 _ _).trans (teq (by decide : (0 : Int32) = (0 : Int32))).2) rfl ?_
  refine m_iinc K X1.here hx hby #[.val (.ref a1), .val (.int (2 : Int32)), .val (.int (1 : Int32))] d_prog_6_10_13 rfl rfl rfl ?_
  refine m_goto K X1.here hx hby (q := 2) d_prog_6_10_16 (by decide) rfl ?_
  refine m_aloadN K X1.here hx hby d_prog_6_10_2 rfl rfl rfl ?_
  refine k_getF K X1 hx hby hZ hown (host := "") (Or.inl (hw _ (List.mem_of_getElem? (i := 38) rfl))) Via.refl e1 F_occupied_a1 d_prog_6_10_3 rfl fun T2 X2 e2 => ?_
  refine m_iloadN K X2.here hx hby d_prog_6_10_6 rfl rfl ?_
  refine k_ldR K X2 hx hby hZ e2 rfl A_bo (v := (.ref x2)) (by decide) rfl d_prog_6_10_7 rfl ?_
  refine m_iloadN K X2.here hx hby d_prog_6_10_8 rfl rfl ?_
  refine k_ldZ K X2 hx hby hZ e2 A_x2 (v := (.int (1 : Int32))) (by decide) rfl d_prog_6_10_9 rfl ?_
  refine m_ifY K X2.here hx hby (q := 19) d_prog_6_10_10 ((if0 _ _).trans (feq (by decide : ¬ ((1 : Int32) = (0 : Int32)))).2) (by decide) rfl ?_
  refine m_aloadN K X2.here hx hby d_prog_6_10_19 rfl rfl rfl ?_
  refine k_getF K X2 hx hby hZ hown (host := "") (Or.inl (hw _ (List.mem_of_getElem? (i := 38) rfl))) Via.refl e2 F_occupied_a1 d_prog_6_10_20 rfl fun T3 X3 e3 => ?_
  refine m_iloadN K X3.here hx hby d_prog_6_10_23 rfl rfl ?_
  refine k_ldR K X3 hx hby hZ e3 rfl A_bo (v := (.ref x2)) (by decide) rfl d_prog_6_10_24 rfl ?_
  refine m_iloadN K X3.here hx hby d_prog_6_10_25 rfl rfl ?_
  refine m_iconst K X3.here hx hby (0 : Int32) d_prog_6_10_26 rfl rfl ?_
  refine k_stZ K X3 hx hby hZ e3 A_x2 (by decide) (Nat.le_of_ble_eq_true rfl) d_prog_6_10_27 rfl fun T4 h4 X4 e4 W4 V4 => ?_
  replace V4 : Av Z h4 x2 .boolean [(.int (0 : Int32)), (.int (0 : Int32)), (.int (1 : Int32)), (.int (1 : Int32)), (.int (1 : Int32))] := V4
  have N4 := Fr.snoc X4 N0 g_x2
  refine m_aloadN K X4.here hx hby d_prog_6_10_28 rfl rfl rfl ?_
  refine k_getF K X4 hx hby hZ hown (host := "") (Or.inl (hw _ (List.mem_of_getElem? (i := 40) rfl))) Via.refl e4 (F_uncovered_a1.other W4 (Or.inl ne_a1_x2)) d_prog_6_10_29 rfl fun T5 X5 e5 => ?_
  refine m_iloadN K X5.here hx hby d_prog_6_10_32 rfl rfl ?_
  refine m_dup2 K X5.here hx hby d_prog_6_10_33 rfl rfl rfl ?_
  refine k_ldZ K X5 hx hby hZ e5 (A_bu.other W4 (Ne.symm ne_x2_bu)) (v := (.int u2)) (by decide) rfl d_prog_6_10_34 rfl ?_
  refine m_iloadN K X5.here hx hby d_prog_6_10_35 rfl rfl ?_
  refine m_iconst K X5.here hx hby (4 : Int32) d_prog_6_10_36 rfl rfl ?_
  refine m_icmpY K X5.here hx hby (q := 44) d_prog_6_10_37 (feq (by decide : ¬ ((1 : Int32) = (4 : Int32)))).2 (by decide) rfl ?_
  refine m_iconst K X5.here hx hby (0 : Int32) d_prog_6_10_44 rfl rfl ?_
  refine m_ior K X5.here hx hby (u2 ||| (0 : Int32)) d_prog_6_10_45 rfl rfl ?_
  refine k_stZ K X5 hx hby hZ e5 (A_bu.other W4 (Ne.symm ne_x2_bu)) (by decide) (Nat.le_of_ble_eq_true rfl) d_prog_6_10_46 rfl fun T6 h6 X6 e6 W6 V6 => ?_
  replace V6 : Av Z h6 bu .boolean [(.int u0), (.int u1), (.int (nar .boolean (u2 ||| (0 : Int32))))] := V6
  have N6 := Fr.snoc X6 N4 g_bu
  exact Go.retV X6 hx hby hlk hret d_prog_6_10_47 (by decide) (by decide) (by rw [e6]; exact ⟨u0, u1, (nar .boolean (u2 ||| (0 : Int32))), rfl, N6, (((Keep.refl h0 [x2, bu]).wr W4 (Or.inl (by simp))).wr W6 (Or.inl (by simp))), (V4.other W6 ne_x2_bu), V6⟩)
theorem ef8_2_2 (m : MethodId) (x0 : Addr) (x1 : Int32) : entryFrame m #[(.ref x0), (.int x1)] 3 = mkF m 0 #[.val (.ref x0), .val (.int x1), .unset] [] := by first | (simp [entryFrame, mkF, argsToLocals, Value.category]; done) | rfl
set_option maxRecDepth 65536 in
set_option maxHeartbeats 40000000 in
theorem c8_2_2 (l : Launch) (Z : State) (a0 : Array Value) (hw : ∀ d ∈ tables_1, d.before a0 Z = true) (a1 : Addr) (bo : Addr) (bu : Addr) (x0 : Addr) (x1 : Addr) (x2 : Addr) (u0 : Int32) (u1 : Int32) (u2 : Int32) (h0 : Heap) (n0 : Nat) (Z0 : n0 ≤ h0.size) (E_a1 : Exa Z h0 a1 "com/example/craterworks/craterworks/SharesStation") (F_occupied_a1 : Fld Z h0 a1 "com/example/craterworks/craterworks/SharesStation" "occupied" "[[Z" (.ref bo)) (F_uncovered_a1 : Fld Z h0 a1 "com/example/craterworks/craterworks/SharesStation" "uncovered" "[Z" (.ref bu)) (A_bo : Av Z h0 bo (.array .boolean) [(.ref x0), (.ref x1), (.ref x2)]) (A_x2 : Av Z h0 x2 .boolean [(.int (0 : Int32)), (.int (0 : Int32)), (.int (1 : Int32)), (.int (1 : Int32)), (.int (1 : Int32))]) (A_bu : Av Z h0 bu .boolean [(.int u0), (.int u1), (.int u2)]) (g_x2 : n0 ≤ x2) (g_bu : n0 ≤ bu) (ne_a1_x2 : a1 ≠ x2) (ne_a1_bu : a1 ≠ bu) (ne_bo_x2 : bo ≠ x2) (ne_bo_bu : bo ≠ bu) (ne_x2_bu : x2 ≠ bu) :
    Con l Z (⟨"com/example/craterworks/craterworks/SharesStation", "take", "(I)V"⟩ : MethodName) prog_6_method_10_code 3 none ({ frames := 0, cells := 0, slots := 0, locals := 0 } : Room) [] #[(.ref a1), (.int (2 : Int32))] h0 (fun v h L => ∃ zu0 : Int32, ∃ zu1 : Int32, ∃ zu2 : Int32, v = none ∧ Fr n0 L ∧ Keep h0 h [x2, bu] ∧ Av Z h x2 .boolean [(.int (0 : Int32)), (.int (0 : Int32)), (.int (0 : Int32)), (.int (1 : Int32)), (.int (1 : Int32))] ∧ Av Z h bu .boolean [(.int zu0), (.int zu1), (.int zu2)]) := by
  refine Con.of (plainFor_of_name pn_com_example_craterworks_craterworks_SharesStation) #[.val (.ref a1), .val (.int (2 : Int32)), .unset] (fun m => ef8_2_2 m a1 (2 : Int32)) ?_
  intro p e s m below meth c s₁ K hx hby hml hown hnm hret hlk hZ X0 e0
  have N0 := Fr.nil n0
  refine m_iconst K X0.here hx hby (0 : Int32) d_prog_6_10_0 rfl rfl ?_
  refine m_istoreN K X0.here hx hby #[.val (.ref a1), .val (.int (2 : Int32)), .val (.int (0 : Int32))] d_prog_6_10_1 rfl rfl ?_
  refine m_aloadN K X0.here hx hby d_prog_6_10_2 rfl rfl rfl ?_
  refine k_getF K X0 hx hby hZ hown (host := "") (Or.inl (hw _ (List.mem_of_getElem? (i := 38) rfl))) Via.refl e0 F_occupied_a1 d_prog_6_10_3 rfl fun T1 X1 e1 => ?_
  refine m_iloadN K X1.here hx hby d_prog_6_10_6 rfl rfl ?_
  refine k_ldR K X1 hx hby hZ e1 rfl A_bo (v := (.ref x2)) (by decide) rfl d_prog_6_10_7 rfl ?_
  refine m_iloadN K X1.here hx hby d_prog_6_10_8 rfl rfl ?_
  refine k_ldZ K X1 hx hby hZ e1 A_x2 (v := (.int (0 : Int32))) (by decide) rfl d_prog_6_10_9 rfl ?_
  refine m_ifN K X1.here hx hby (q := 13) d_prog_6_10_10 ((if0 _ _).trans (teq (by decide : (0 : Int32) = (0 : Int32))).2) rfl ?_
  refine m_iinc K X1.here hx hby #[.val (.ref a1), .val (.int (2 : Int32)), .val (.int (1 : Int32))] d_prog_6_10_13 rfl rfl rfl ?_
  refine m_goto K X1.here hx hby (q := 2) d_prog_6_10_16 (by decide) rfl ?_
  refine m_aloadN K X1.here hx hby d_prog_6_10_2 rfl rfl rfl ?_
  refine k_getF K X1 hx hby hZ hown (host := "") (Or.inl (hw _ (List.mem_of_getElem? (i := 38) rfl))) Via.refl e1 F_occupied_a1 d_prog_6_10_3 rfl fun T2 X2 e2 => ?_
  refine m_iloadN K X2.here hx hby d_prog_6_10_6 rfl rfl ?_
  refine k_ldR K X2 hx hby hZ e2 rfl A_bo (v := (.ref x2)) (by decide) rfl d_prog_6_10_7 rfl ?_
  refine m_iloadN K X2.here hx hby d_prog_6_10_8 rfl rfl ?_
  refine k_ldZ K X2 hx hby hZ e2 A_x2 (v := (.int (0 : Int32))) (by decide) rfl d_prog_6_10_9 rfl ?_
  refine m_ifN K X2.here hx hby (q := 13) d_prog_6_10_10 ((if0 _ _).trans (teq (by decide : (0 : Int32) = (0 : Int32))).2) rfl ?_
  refine m_iinc K X2.here hx hby #[.val (.ref a1), .val (.int (2 : Int32)), .val (.int (2 : Int32))] d_prog_6_10_13 rfl rfl rfl ?_
  refine m_goto K X2.here hx hby (q := 2) d_prog_6_10_16 (by decide) rfl ?_
  refine m_aloadN K X2.here hx hby d_prog_6_10_2 rfl rfl rfl ?_
  refine k_getF K X2 hx hby hZ hown (host := "") (Or.inl (hw _ (List.mem_of_getElem? (i := 38) rfl))) Via.refl e2 F_occupied_a1 d_prog_6_10_3 rfl fun T3 X3 e3 => ?_
  refine m_iloadN K X3.here hx hby d_prog_6_10_6 rfl rfl ?_
  refine k_ldR K X3 hx hby hZ e3 rfl A_bo (v := (.ref x2)) (by decide) rfl d_prog_6_10_7 rfl ?_
  refine m_iloadN K X3.here hx hby d_prog_6_10_8 rfl rfl ?_
  refine k_ldZ K X3 hx hby hZ e3 A_x2 (v := (.int (1 : Int32))) (by decide) rfl d_prog_6_10_9 rfl ?_
  refine m_ifY K X3.here hx hby (q := 19) d_prog_6_10_10 ((if0 _ _).trans (feq (by decide : ¬ ((1 : Int32) = (0 : Int32)))).2) (by decide) rfl ?_
  refine m_aloadN K X3.here hx hby d_prog_6_10_19 rfl rfl rfl ?_
  refine k_getF K X3 hx hby hZ hown (host := "") (Or.inl (hw _ (List.mem_of_getElem? (i := 38) rfl))) Via.refl e3 F_occupied_a1 d_prog_6_10_20 rfl fun T4 X4 e4 => ?_
  refine m_iloadN K X4.here hx hby d_prog_6_10_23 rfl rfl ?_
  refine k_ldR K X4 hx hby hZ e4 rfl A_bo (v := (.ref x2)) (by decide) rfl d_prog_6_10_24 rfl ?_
  refine m_iloadN K X4.here hx hby d_prog_6_10_25 rfl rfl ?_
  refine m_iconst K X4.here hx hby (0 : Int32) d_prog_6_10_26 rfl rfl ?_
  refine k_stZ K X4 hx hby hZ e4 A_x2 (by decide) (Nat.le_of_ble_eq_true rfl) d_prog_6_10_27 rfl fun T5 h5 X5 e5 W5 V5 => ?_
  replace V5 : Av Z h5 x2 .boolean [(.int (0 : Int32)), (.int (0 : Int32)), (.int (0 : Int32)), (.int (1 : Int32)), (.int (1 : Int32))] := V5
  have N5 := Fr.snoc X5 N0 g_x2
  refine m_aloadN K X5.here hx hby d_prog_6_10_28 rfl rfl rfl ?_
  refine k_getF K X5 hx hby hZ hown (host := "") (Or.inl (hw _ (List.mem_of_getElem? (i := 40) rfl))) Via.refl e5 (F_uncovered_a1.other W5 (Or.inl ne_a1_x2)) d_prog_6_10_29 rfl fun T6 X6 e6 => ?_
  refine m_iloadN K X6.here hx hby d_prog_6_10_32 rfl rfl ?_
  refine m_dup2 K X6.here hx hby d_prog_6_10_33 rfl rfl rfl ?_
  refine k_ldZ K X6 hx hby hZ e6 (A_bu.other W5 (Ne.symm ne_x2_bu)) (v := (.int u2)) (by decide) rfl d_prog_6_10_34 rfl ?_
  refine m_iloadN K X6.here hx hby d_prog_6_10_35 rfl rfl ?_
  refine m_iconst K X6.here hx hby (4 : Int32) d_prog_6_10_36 rfl rfl ?_
  refine m_icmpY K X6.here hx hby (q := 44) d_prog_6_10_37 (feq (by decide : ¬ ((2 : Int32) = (4 : Int32)))).2 (by decide) rfl ?_
  refine m_iconst K X6.here hx hby (0 : Int32) d_prog_6_10_44 rfl rfl ?_
  refine m_ior K X6.here hx hby (u2 ||| (0 : Int32)) d_prog_6_10_45 rfl rfl ?_
  refine k_stZ K X6 hx hby hZ e6 (A_bu.other W5 (Ne.symm ne_x2_bu)) (by decide) (Nat.le_of_ble_eq_true rfl) d_prog_6_10_46 rfl fun T7 h7 X7 e7 W7 V7 => ?_
  replace V7 : Av Z h7 bu .boolean [(.int u0), (.int u1), (.int (nar .boolean (u2 ||| (0 : Int32))))] := V7
  have N7 := Fr.snoc X7 N5 g_bu
  exact Go.retV X7 hx hby hlk hret d_prog_6_10_47 (by decide) (by decide) (by rw [e7]; exact ⟨u0, u1, (nar .boolean (u2 ||| (0 : Int32))), rfl, N7, (((Keep.refl h0 [x2, bu]).wr W5 (Or.inl (by simp))).wr W7 (Or.inl (by simp))), (V5.other W7 ne_x2_bu), V7⟩)
theorem ef8_2_3 (m : MethodId) (x0 : Addr) (x1 : Int32) : entryFrame m #[(.ref x0), (.int x1)] 3 = mkF m 0 #[.val (.ref x0), .val (.int x1), .unset] [] := by first | (simp [entryFrame, mkF, argsToLocals, Value.category]; done) | rfl
set_option maxRecDepth 65536 in
set_option maxHeartbeats 40000000 in
theorem c8_2_3 (l : Launch) (Z : State) (a0 : Array Value) (hw : ∀ d ∈ tables_1, d.before a0 Z = true) (a1 : Addr) (bo : Addr) (bu : Addr) (x0 : Addr) (x1 : Addr) (x2 : Addr) (u0 : Int32) (u1 : Int32) (u2 : Int32) (h0 : Heap) (n0 : Nat) (Z0 : n0 ≤ h0.size) (E_a1 : Exa Z h0 a1 "com/example/craterworks/craterworks/SharesStation") (F_occupied_a1 : Fld Z h0 a1 "com/example/craterworks/craterworks/SharesStation" "occupied" "[[Z" (.ref bo)) (F_uncovered_a1 : Fld Z h0 a1 "com/example/craterworks/craterworks/SharesStation" "uncovered" "[Z" (.ref bu)) (A_bo : Av Z h0 bo (.array .boolean) [(.ref x0), (.ref x1), (.ref x2)]) (A_x2 : Av Z h0 x2 .boolean [(.int (0 : Int32)), (.int (0 : Int32)), (.int (0 : Int32)), (.int (1 : Int32)), (.int (1 : Int32))]) (A_bu : Av Z h0 bu .boolean [(.int u0), (.int u1), (.int u2)]) (g_x2 : n0 ≤ x2) (g_bu : n0 ≤ bu) (ne_a1_x2 : a1 ≠ x2) (ne_a1_bu : a1 ≠ bu) (ne_bo_x2 : bo ≠ x2) (ne_bo_bu : bo ≠ bu) (ne_x2_bu : x2 ≠ bu) :
    Con l Z (⟨"com/example/craterworks/craterworks/SharesStation", "take", "(I)V"⟩ : MethodName) prog_6_method_10_code 3 none ({ frames := 0, cells := 0, slots := 0, locals := 0 } : Room) [] #[(.ref a1), (.int (2 : Int32))] h0 (fun v h L => ∃ zu0 : Int32, ∃ zu1 : Int32, ∃ zu2 : Int32, v = none ∧ Fr n0 L ∧ Keep h0 h [x2, bu] ∧ Av Z h x2 .boolean [(.int (0 : Int32)), (.int (0 : Int32)), (.int (0 : Int32)), (.int (0 : Int32)), (.int (1 : Int32))] ∧ Av Z h bu .boolean [(.int zu0), (.int zu1), (.int zu2)]) := by
  refine Con.of (plainFor_of_name pn_com_example_craterworks_craterworks_SharesStation) #[.val (.ref a1), .val (.int (2 : Int32)), .unset] (fun m => ef8_2_3 m a1 (2 : Int32)) ?_
  intro p e s m below meth c s₁ K hx hby hml hown hnm hret hlk hZ X0 e0
  have N0 := Fr.nil n0
  refine m_iconst K X0.here hx hby (0 : Int32) d_prog_6_10_0 rfl rfl ?_
  refine m_istoreN K X0.here hx hby #[.val (.ref a1), .val (.int (2 : Int32)), .val (.int (0 : Int32))] d_prog_6_10_1 rfl rfl ?_
  refine m_aloadN K X0.here hx hby d_prog_6_10_2 rfl rfl rfl ?_
  refine k_getF K X0 hx hby hZ hown (host := "") (Or.inl (hw _ (List.mem_of_getElem? (i := 38) rfl))) Via.refl e0 F_occupied_a1 d_prog_6_10_3 rfl fun T1 X1 e1 => ?_
  refine m_iloadN K X1.here hx hby d_prog_6_10_6 rfl rfl ?_
  refine k_ldR K X1 hx hby hZ e1 rfl A_bo (v := (.ref x2)) (by decide) rfl d_prog_6_10_7 rfl ?_
  refine m_iloadN K X1.here hx hby d_prog_6_10_8 rfl rfl ?_
  refine k_ldZ K X1 hx hby hZ e1 A_x2 (v := (.int (0 : Int32))) (by decide) rfl d_prog_6_10_9 rfl ?_
  refine m_ifN K X1.here hx hby (q := 13) d_prog_6_10_10 ((if0 _ _).trans (teq (by decide : (0 : Int32) = (0 : Int32))).2) rfl ?_
  refine m_iinc K X1.here hx hby #[.val (.ref a1), .val (.int (2 : Int32)), .val (.int (1 : Int32))] d_prog_6_10_13 rfl rfl rfl ?_
  refine m_goto K X1.here hx hby (q := 2) d_prog_6_10_16 (by decide) rfl ?_
  refine m_aloadN K X1.here hx hby d_prog_6_10_2 rfl rfl rfl ?_
  refine k_getF K X1 hx hby hZ hown (host := "") (Or.inl (hw _ (List.mem_of_getElem? (i := 38) rfl))) Via.refl e1 F_occupied_a1 d_prog_6_10_3 rfl fun T2 X2 e2 => ?_
  refine m_iloadN K X2.here hx hby d_prog_6_10_6 rfl rfl ?_
  refine k_ldR K X2 hx hby hZ e2 rfl A_bo (v := (.ref x2)) (by decide) rfl d_prog_6_10_7 rfl ?_
  refine m_iloadN K X2.here hx hby d_prog_6_10_8 rfl rfl ?_
  refine k_ldZ K X2 hx hby hZ e2 A_x2 (v := (.int (0 : Int32))) (by decide) rfl d_prog_6_10_9 rfl ?_
  refine m_ifN K X2.here hx hby (q := 13) d_prog_6_10_10 ((if0 _ _).trans (teq (by decide : (0 : Int32) = (0 : Int32))).2) rfl ?_
  refine m_iinc K X2.here hx hby #[.val (.ref a1), .val (.int (2 : Int32)), .val (.int (2 : Int32))] d_prog_6_10_13 rfl rfl rfl ?_
  refine m_goto K X2.here hx hby (q := 2) d_prog_6_10_16 (by decide) rfl ?_
  refine m_aloadN K X2.here hx hby d_prog_6_10_2 rfl rfl rfl ?_
  refine k_getF K X2 hx hby hZ hown (host := "") (Or.inl (hw _ (List.mem_of_getElem? (i := 38) rfl))) Via.refl e2 F_occupied_a1 d_prog_6_10_3 rfl fun T3 X3 e3 => ?_
  refine m_iloadN K X3.here hx hby d_prog_6_10_6 rfl rfl ?_
  refine k_ldR K X3 hx hby hZ e3 rfl A_bo (v := (.ref x2)) (by decide) rfl d_prog_6_10_7 rfl ?_
  refine m_iloadN K X3.here hx hby d_prog_6_10_8 rfl rfl ?_
  refine k_ldZ K X3 hx hby hZ e3 A_x2 (v := (.int (0 : Int32))) (by decide) rfl d_prog_6_10_9 rfl ?_
  refine m_ifN K X3.here hx hby (q := 13) d_prog_6_10_10 ((if0 _ _).trans (teq (by decide : (0 : Int32) = (0 : Int32))).2) rfl ?_
  refine m_iinc K X3.here hx hby #[.val (.ref a1), .val (.int (2 : Int32)), .val (.int (3 : Int32))] d_prog_6_10_13 rfl rfl rfl ?_
  refine m_goto K X3.here hx hby (q := 2) d_prog_6_10_16 (by decide) rfl ?_
  refine m_aloadN K X3.here hx hby d_prog_6_10_2 rfl rfl rfl ?_
  refine k_getF K X3 hx hby hZ hown (host := "") (Or.inl (hw _ (List.mem_of_getElem? (i := 38) rfl))) Via.refl e3 F_occupied_a1 d_prog_6_10_3 rfl fun T4 X4 e4 => ?_
  refine m_iloadN K X4.here hx hby d_prog_6_10_6 rfl rfl ?_
  refine k_ldR K X4 hx hby hZ e4 rfl A_bo (v := (.ref x2)) (by decide) rfl d_prog_6_10_7 rfl ?_
  refine m_iloadN K X4.here hx hby d_prog_6_10_8 rfl rfl ?_
  refine k_ldZ K X4 hx hby hZ e4 A_x2 (v := (.int (1 : Int32))) (by decide) rfl d_prog_6_10_9 rfl ?_
  refine m_ifY K X4.here hx hby (q := 19) d_prog_6_10_10 ((if0 _ _).trans (feq (by decide : ¬ ((1 : Int32) = (0 : Int32)))).2) (by decide) rfl ?_
  refine m_aloadN K X4.here hx hby d_prog_6_10_19 rfl rfl rfl ?_
  refine k_getF K X4 hx hby hZ hown (host := "") (Or.inl (hw _ (List.mem_of_getElem? (i := 38) rfl))) Via.refl e4 F_occupied_a1 d_prog_6_10_20 rfl fun T5 X5 e5 => ?_
  refine m_iloadN K X5.here hx hby d_prog_6_10_23 rfl rfl ?_
  refine k_ldR K X5 hx hby hZ e5 rfl A_bo (v := (.ref x2)) (by decide) rfl d_prog_6_10_24 rfl ?_
  refine m_iloadN K X5.here hx hby d_prog_6_10_25 rfl rfl ?_
  refine m_iconst K X5.here hx hby (0 : Int32) d_prog_6_10_26 rfl rfl ?_
  refine k_stZ K X5 hx hby hZ e5 A_x2 (by decide) (Nat.le_of_ble_eq_true rfl) d_prog_6_10_27 rfl fun T6 h6 X6 e6 W6 V6 => ?_
  replace V6 : Av Z h6 x2 .boolean [(.int (0 : Int32)), (.int (0 : Int32)), (.int (0 : Int32)), (.int (0 : Int32)), (.int (1 : Int32))] := V6
  have N6 := Fr.snoc X6 N0 g_x2
  refine m_aloadN K X6.here hx hby d_prog_6_10_28 rfl rfl rfl ?_
  refine k_getF K X6 hx hby hZ hown (host := "") (Or.inl (hw _ (List.mem_of_getElem? (i := 40) rfl))) Via.refl e6 (F_uncovered_a1.other W6 (Or.inl ne_a1_x2)) d_prog_6_10_29 rfl fun T7 X7 e7 => ?_
  refine m_iloadN K X7.here hx hby d_prog_6_10_32 rfl rfl ?_
  refine m_dup2 K X7.here hx hby d_prog_6_10_33 rfl rfl rfl ?_
  refine k_ldZ K X7 hx hby hZ e7 (A_bu.other W6 (Ne.symm ne_x2_bu)) (v := (.int u2)) (by decide) rfl d_prog_6_10_34 rfl ?_
  refine m_iloadN K X7.here hx hby d_prog_6_10_35 rfl rfl ?_
  refine m_iconst K X7.here hx hby (4 : Int32) d_prog_6_10_36 rfl rfl ?_
  refine m_icmpY K X7.here hx hby (q := 44) d_prog_6_10_37 (feq (by decide : ¬ ((3 : Int32) = (4 : Int32)))).2 (by decide) rfl ?_
  refine m_iconst K X7.here hx hby (0 : Int32) d_prog_6_10_44 rfl rfl ?_
  refine m_ior K X7.here hx hby (u2 ||| (0 : Int32)) d_prog_6_10_45 rfl rfl ?_
  refine k_stZ K X7 hx hby hZ e7 (A_bu.other W6 (Ne.symm ne_x2_bu)) (by decide) (Nat.le_of_ble_eq_true rfl) d_prog_6_10_46 rfl fun T8 h8 X8 e8 W8 V8 => ?_
  replace V8 : Av Z h8 bu .boolean [(.int u0), (.int u1), (.int (nar .boolean (u2 ||| (0 : Int32))))] := V8
  have N8 := Fr.snoc X8 N6 g_bu
  exact Go.retV X8 hx hby hlk hret d_prog_6_10_47 (by decide) (by decide) (by rw [e8]; exact ⟨u0, u1, (nar .boolean (u2 ||| (0 : Int32))), rfl, N8, (((Keep.refl h0 [x2, bu]).wr W6 (Or.inl (by simp))).wr W8 (Or.inl (by simp))), (V6.other W8 ne_x2_bu), V8⟩)
theorem ef8_2_4 (m : MethodId) (x0 : Addr) (x1 : Int32) : entryFrame m #[(.ref x0), (.int x1)] 3 = mkF m 0 #[.val (.ref x0), .val (.int x1), .unset] [] := by first | (simp [entryFrame, mkF, argsToLocals, Value.category]; done) | rfl
set_option maxRecDepth 65536 in
set_option maxHeartbeats 40000000 in
theorem c8_2_4 (l : Launch) (Z : State) (a0 : Array Value) (hw : ∀ d ∈ tables_1, d.before a0 Z = true) (a1 : Addr) (bo : Addr) (bu : Addr) (x0 : Addr) (x1 : Addr) (x2 : Addr) (u0 : Int32) (u1 : Int32) (u2 : Int32) (h0 : Heap) (n0 : Nat) (Z0 : n0 ≤ h0.size) (E_a1 : Exa Z h0 a1 "com/example/craterworks/craterworks/SharesStation") (F_occupied_a1 : Fld Z h0 a1 "com/example/craterworks/craterworks/SharesStation" "occupied" "[[Z" (.ref bo)) (F_uncovered_a1 : Fld Z h0 a1 "com/example/craterworks/craterworks/SharesStation" "uncovered" "[Z" (.ref bu)) (A_bo : Av Z h0 bo (.array .boolean) [(.ref x0), (.ref x1), (.ref x2)]) (A_x2 : Av Z h0 x2 .boolean [(.int (0 : Int32)), (.int (0 : Int32)), (.int (0 : Int32)), (.int (0 : Int32)), (.int (1 : Int32))]) (A_bu : Av Z h0 bu .boolean [(.int u0), (.int u1), (.int u2)]) (g_x2 : n0 ≤ x2) (g_bu : n0 ≤ bu) (ne_a1_x2 : a1 ≠ x2) (ne_a1_bu : a1 ≠ bu) (ne_bo_x2 : bo ≠ x2) (ne_bo_bu : bo ≠ bu) (ne_x2_bu : x2 ≠ bu) :
    Con l Z (⟨"com/example/craterworks/craterworks/SharesStation", "take", "(I)V"⟩ : MethodName) prog_6_method_10_code 3 none ({ frames := 0, cells := 0, slots := 0, locals := 0 } : Room) [] #[(.ref a1), (.int (2 : Int32))] h0 (fun v h L => ∃ zu0 : Int32, ∃ zu1 : Int32, ∃ zu2 : Int32, v = none ∧ Fr n0 L ∧ Keep h0 h [x2, bu] ∧ Av Z h x2 .boolean [(.int (0 : Int32)), (.int (0 : Int32)), (.int (0 : Int32)), (.int (0 : Int32)), (.int (0 : Int32))] ∧ Av Z h bu .boolean [(.int zu0), (.int zu1), (.int zu2)]) := by
  refine Con.of (plainFor_of_name pn_com_example_craterworks_craterworks_SharesStation) #[.val (.ref a1), .val (.int (2 : Int32)), .unset] (fun m => ef8_2_4 m a1 (2 : Int32)) ?_
  intro p e s m below meth c s₁ K hx hby hml hown hnm hret hlk hZ X0 e0
  have N0 := Fr.nil n0
  refine m_iconst K X0.here hx hby (0 : Int32) d_prog_6_10_0 rfl rfl ?_
  refine m_istoreN K X0.here hx hby #[.val (.ref a1), .val (.int (2 : Int32)), .val (.int (0 : Int32))] d_prog_6_10_1 rfl rfl ?_
  refine m_aloadN K X0.here hx hby d_prog_6_10_2 rfl rfl rfl ?_
  refine k_getF K X0 hx hby hZ hown (host := "") (Or.inl (hw _ (List.mem_of_getElem? (i := 38) rfl))) Via.refl e0 F_occupied_a1 d_prog_6_10_3 rfl fun T1 X1 e1 => ?_
  refine m_iloadN K X1.here hx hby d_prog_6_10_6 rfl rfl ?_
  refine k_ldR K X1 hx hby hZ e1 rfl A_bo (v := (.ref x2)) (by decide) rfl d_prog_6_10_7 rfl ?_
  refine m_iloadN K X1.here hx hby d_prog_6_10_8 rfl rfl ?_
  refine k_ldZ K X1 hx hby hZ e1 A_x2 (v := (.int (0 : Int32))) (by decide) rfl d_prog_6_10_9 rfl ?_
  refine m_ifN K X1.here hx hby (q := 13) d_prog_6_10_10 ((if0 _ _).trans (teq (by decide : (0 : Int32) = (0 : Int32))).2) rfl ?_
  refine m_iinc K X1.here hx hby #[.val (.ref a1), .val (.int (2 : Int32)), .val (.int (1 : Int32))] d_prog_6_10_13 rfl rfl rfl ?_
  refine m_goto K X1.here hx hby (q := 2) d_prog_6_10_16 (by decide) rfl ?_
  refine m_aloadN K X1.here hx hby d_prog_6_10_2 rfl rfl rfl ?_
  refine k_getF K X1 hx hby hZ hown (host := "") (Or.inl (hw _ (List.mem_of_getElem? (i := 38) rfl))) Via.refl e1 F_occupied_a1 d_prog_6_10_3 rfl fun T2 X2 e2 => ?_
  refine m_iloadN K X2.here hx hby d_prog_6_10_6 rfl rfl ?_
  refine k_ldR K X2 hx hby hZ e2 rfl A_bo (v := (.ref x2)) (by decide) rfl d_prog_6_10_7 rfl ?_
  refine m_iloadN K X2.here hx hby d_prog_6_10_8 rfl rfl ?_
  refine k_ldZ K X2 hx hby hZ e2 A_x2 (v := (.int (0 : Int32))) (by decide) rfl d_prog_6_10_9 rfl ?_
  refine m_ifN K X2.here hx hby (q := 13) d_prog_6_10_10 ((if0 _ _).trans (teq (by decide : (0 : Int32) = (0 : Int32))).2) rfl ?_
  refine m_iinc K X2.here hx hby #[.val (.ref a1), .val (.int (2 : Int32)), .val (.int (2 : Int32))] d_prog_6_10_13 rfl rfl rfl ?_
  refine m_goto K X2.here hx hby (q := 2) d_prog_6_10_16 (by decide) rfl ?_
  refine m_aloadN K X2.here hx hby d_prog_6_10_2 rfl rfl rfl ?_
  refine k_getF K X2 hx hby hZ hown (host := "") (Or.inl (hw _ (List.mem_of_getElem? (i := 38) rfl))) Via.refl e2 F_occupied_a1 d_prog_6_10_3 rfl fun T3 X3 e3 => ?_
  refine m_iloadN K X3.here hx hby d_prog_6_10_6 rfl rfl ?_
  refine k_ldR K X3 hx hby hZ e3 rfl A_bo (v := (.ref x2)) (by decide) rfl d_prog_6_10_7 rfl ?_
  refine m_iloadN K X3.here hx hby d_prog_6_10_8 rfl rfl ?_
  refine k_ldZ K X3 hx hby hZ e3 A_x2 (v := (.int (0 : Int32))) (by decide) rfl d_prog_6_10_9 rfl ?_
  refine m_ifN K X3.here hx hby (q := 13) d_prog_6_10_10 ((if0 _ _).trans (teq (by decide : (0 : Int32) = (0 : Int32))).2) rfl ?_
  refine m_iinc K X3.here hx hby #[.val (.ref a1), .val (.int (2 : Int32)), .val (.int (3 : Int32))] d_prog_6_10_13 rfl rfl rfl ?_
  refine m_goto K X3.here hx hby (q := 2) d_prog_6_10_16 (by decide) rfl ?_
  refine m_aloadN K X3.here hx hby d_prog_6_10_2 rfl rfl rfl ?_
  refine k_getF K X3 hx hby hZ hown (host := "") (Or.inl (hw _ (List.mem_of_getElem? (i := 38) rfl))) Via.refl e3 F_occupied_a1 d_prog_6_10_3 rfl fun T4 X4 e4 => ?_
  refine m_iloadN K X4.here hx hby d_prog_6_10_6 rfl rfl ?_
  refine k_ldR K X4 hx hby hZ e4 rfl A_bo (v := (.ref x2)) (by decide) rfl d_prog_6_10_7 rfl ?_
  refine m_iloadN K X4.here hx hby d_prog_6_10_8 rfl rfl ?_
  refine k_ldZ K X4 hx hby hZ e4 A_x2 (v := (.int (0 : Int32))) (by decide) rfl d_prog_6_10_9 rfl ?_
  refine m_ifN K X4.here hx hby (q := 13) d_prog_6_10_10 ((if0 _ _).trans (teq (by decide : (0 : Int32) = (0 : Int32))).2) rfl ?_
  refine m_iinc K X4.here hx hby #[.val (.ref a1), .val (.int (2 : Int32)), .val (.int (4 : Int32))] d_prog_6_10_13 rfl rfl rfl ?_
  refine m_goto K X4.here hx hby (q := 2) d_prog_6_10_16 (by decide) rfl ?_
  refine m_aloadN K X4.here hx hby d_prog_6_10_2 rfl rfl rfl ?_
  refine k_getF K X4 hx hby hZ hown (host := "") (Or.inl (hw _ (List.mem_of_getElem? (i := 38) rfl))) Via.refl e4 F_occupied_a1 d_prog_6_10_3 rfl fun T5 X5 e5 => ?_
  refine m_iloadN K X5.here hx hby d_prog_6_10_6 rfl rfl ?_
  refine k_ldR K X5 hx hby hZ e5 rfl A_bo (v := (.ref x2)) (by decide) rfl d_prog_6_10_7 rfl ?_
  refine m_iloadN K X5.here hx hby d_prog_6_10_8 rfl rfl ?_
  refine k_ldZ K X5 hx hby hZ e5 A_x2 (v := (.int (1 : Int32))) (by decide) rfl d_prog_6_10_9 rfl ?_
  refine m_ifY K X5.here hx hby (q := 19) d_prog_6_10_10 ((if0 _ _).trans (feq (by decide : ¬ ((1 : Int32) = (0 : Int32)))).2) (by decide) rfl ?_
  refine m_aloadN K X5.here hx hby d_prog_6_10_19 rfl rfl rfl ?_
  refine k_getF K X5 hx hby hZ hown (host := "") (Or.inl (hw _ (List.mem_of_getElem? (i := 38) rfl))) Via.refl e5 F_occupied_a1 d_prog_6_10_20 rfl fun T6 X6 e6 => ?_
  refine m_iloadN K X6.here hx hby d_prog_6_10_23 rfl rfl ?_
  refine k_ldR K X6 hx hby hZ e6 rfl A_bo (v := (.ref x2)) (by decide) rfl d_prog_6_10_24 rfl ?_
  refine m_iloadN K X6.here hx hby d_prog_6_10_25 rfl rfl ?_
  refine m_iconst K X6.here hx hby (0 : Int32) d_prog_6_10_26 rfl rfl ?_
  refine k_stZ K X6 hx hby hZ e6 A_x2 (by decide) (Nat.le_of_ble_eq_true rfl) d_prog_6_10_27 rfl fun T7 h7 X7 e7 W7 V7 => ?_
  replace V7 : Av Z h7 x2 .boolean [(.int (0 : Int32)), (.int (0 : Int32)), (.int (0 : Int32)), (.int (0 : Int32)), (.int (0 : Int32))] := V7
  have N7 := Fr.snoc X7 N0 g_x2
  refine m_aloadN K X7.here hx hby d_prog_6_10_28 rfl rfl rfl ?_
  refine k_getF K X7 hx hby hZ hown (host := "") (Or.inl (hw _ (List.mem_of_getElem? (i := 40) rfl))) Via.refl e7 (F_uncovered_a1.other W7 (Or.inl ne_a1_x2)) d_prog_6_10_29 rfl fun T8 X8 e8 => ?_
  refine m_iloadN K X8.here hx hby d_prog_6_10_32 rfl rfl ?_
  refine m_dup2 K X8.here hx hby d_prog_6_10_33 rfl rfl rfl ?_
  refine k_ldZ K X8 hx hby hZ e8 (A_bu.other W7 (Ne.symm ne_x2_bu)) (v := (.int u2)) (by decide) rfl d_prog_6_10_34 rfl ?_
  refine m_iloadN K X8.here hx hby d_prog_6_10_35 rfl rfl ?_
  refine m_iconst K X8.here hx hby (4 : Int32) d_prog_6_10_36 rfl rfl ?_
  refine m_icmpN K X8.here hx hby (q := 40) d_prog_6_10_37 (teq (by decide : (4 : Int32) = (4 : Int32))).2 rfl ?_
  refine m_iconst K X8.here hx hby (1 : Int32) d_prog_6_10_40 rfl rfl ?_
  refine m_goto K X8.here hx hby (q := 45) d_prog_6_10_41 (by decide) rfl ?_
  refine m_ior K X8.here hx hby (u2 ||| (1 : Int32)) d_prog_6_10_45 rfl rfl ?_
  refine k_stZ K X8 hx hby hZ e8 (A_bu.other W7 (Ne.symm ne_x2_bu)) (by decide) (Nat.le_of_ble_eq_true rfl) d_prog_6_10_46 rfl fun T9 h9 X9 e9 W9 V9 => ?_
  replace V9 : Av Z h9 bu .boolean [(.int u0), (.int u1), (.int (nar .boolean (u2 ||| (1 : Int32))))] := V9
  have N9 := Fr.snoc X9 N7 g_bu
  exact Go.retV X9 hx hby hlk hret d_prog_6_10_47 (by decide) (by decide) (by rw [e9]; exact ⟨u0, u1, (nar .boolean (u2 ||| (1 : Int32))), rfl, N9, (((Keep.refl h0 [x2, bu]).wr W7 (Or.inl (by simp))).wr W9 (Or.inl (by simp))), (V7.other W9 ne_x2_bu), V9⟩)
theorem d_method_2_0 : decode method_2_code 0 = .ok (.iload_n 2, 1) := by decide +kernel
theorem d_method_2_1 : decode method_2_code 1 = .ok (.ifCond .le 8, 3) := by decide +kernel
theorem d_method_2_9 : decode method_2_code 9 = .ok (.iload_n 2, 1) := by decide +kernel
theorem d_method_2_10 : decode method_2_code 10 = .ok (.iconst 1, 1) := by decide +kernel
theorem d_method_2_11 : decode method_2_code 11 = .ok (.if_icmp .le 8, 3) := by decide +kernel
theorem d_method_2_19 : decode method_2_code 19 = .ok (.iload_n 2, 1) := by decide +kernel
theorem d_method_2_20 : decode method_2_code 20 = .ok (.iconst 2, 1) := by decide +kernel
theorem d_method_2_21 : decode method_2_code 21 = .ok (.if_icmp .le 8, 3) := by decide +kernel
theorem d_method_2_29 : decode method_2_code 29 = .ok (.iload_n 2, 1) := by decide +kernel
theorem d_method_2_30 : decode method_2_code 30 = .ok (.iconst 3, 1) := by decide +kernel
theorem d_method_2_31 : decode method_2_code 31 = .ok (.if_icmp .le 8, 3) := by decide +kernel
theorem d_method_2_39 : decode method_2_code 39 = .ok (.iload_n 2, 1) := by decide +kernel
theorem d_method_2_40 : decode method_2_code 40 = .ok (.iconst 4, 1) := by decide +kernel
theorem d_method_2_41 : decode method_2_code 41 = .ok (.if_icmp .le 8, 3) := by decide +kernel
theorem d_method_2_49 : decode method_2_code 49 = .ok (.return_, 1) := by decide +kernel
theorem pn_com_example_craterworks_craterworks_SharesStationBranchesPinLaw : plainName "com/example/craterworks/craterworks/SharesStationBranchesPinLaw" = true := by first | (simp [plainName, overriddenIn]; done) | decide +kernel
theorem ef7_0_0 (m : MethodId) (x0 : Addr) (x1 : Int32) (x2 : Int32) : entryFrame m #[(.ref x0), (.int x1), (.int x2)] 3 = mkF m 0 #[.val (.ref x0), .val (.int x1), .val (.int x2)] [] := by first | (simp [entryFrame, mkF, argsToLocals, Value.category]; done) | rfl
set_option maxRecDepth 65536 in
set_option maxHeartbeats 40000000 in
theorem c7_0_0 (l : Launch) (Z : State) (a0 : Array Value) (hw : ∀ d ∈ tables_1, d.before a0 Z = true) (a1 : Addr) (bo : Addr) (bu : Addr) (x0 : Addr) (x1 : Addr) (x2 : Addr) (u0 : Int32) (u1 : Int32) (u2 : Int32) (h0 : Heap) (n0 : Nat) (Z0 : n0 ≤ h0.size) (E_a1 : Exa Z h0 a1 "com/example/craterworks/craterworks/SharesStation") (F_occupied_a1 : Fld Z h0 a1 "com/example/craterworks/craterworks/SharesStation" "occupied" "[[Z" (.ref bo)) (F_uncovered_a1 : Fld Z h0 a1 "com/example/craterworks/craterworks/SharesStation" "uncovered" "[Z" (.ref bu)) (A_bo : Av Z h0 bo (.array .boolean) [(.ref x0), (.ref x1), (.ref x2)]) (A_x0 : Av Z h0 x0 .boolean [(.int (1 : Int32)), (.int (1 : Int32)), (.int (1 : Int32)), (.int (1 : Int32)), (.int (1 : Int32))]) (A_bu : Av Z h0 bu .boolean [(.int u0), (.int u1), (.int u2)]) (g_x0 : n0 ≤ x0) (g_bu : n0 ≤ bu) (ne_a1_x0 : a1 ≠ x0) (ne_a1_bu : a1 ≠ bu) (ne_bo_x0 : bo ≠ x0) (ne_bo_bu : bo ≠ bu) (ne_x0_bu : x0 ≠ bu) :
    Con l Z (⟨"com/example/craterworks/craterworks/SharesStationBranchesPinLaw", "takeN", "(Lcom/example/craterworks/craterworks/SharesStation;II)V"⟩ : MethodName) method_2_code 3 none ({ frames := 1, cells := 0, slots := 0, locals := 14 } : Room) [] #[(.ref a1), (.int (0 : Int32)), (.int (0 : Int32))] h0 (fun v h L => ∃ zu0 : Int32, ∃ zu1 : Int32, ∃ zu2 : Int32, v = none ∧ Fr n0 L ∧ Keep h0 h [x0, bu] ∧ Av Z h x0 .boolean [(.int (1 : Int32)), (.int (1 : Int32)), (.int (1 : Int32)), (.int (1 : Int32)), (.int (1 : Int32))] ∧ Av Z h bu .boolean [(.int zu0), (.int zu1), (.int zu2)]) := by
  refine Con.of (plainFor_of_name pn_com_example_craterworks_craterworks_SharesStationBranchesPinLaw) #[.val (.ref a1), .val (.int (0 : Int32)), .val (.int (0 : Int32))] (fun m => ef7_0_0 m a1 (0 : Int32) (0 : Int32)) ?_
  intro p e s m below meth c s₁ K hx hby hml hown hnm hret hlk hZ X0 e0
  have N0 := Fr.nil n0
  refine m_iloadN K X0.here hx hby d_method_2_0 rfl rfl ?_
  refine m_ifY K X0.here hx hby (q := 9) d_method_2_1 ((if0 _ _).trans (flt (by decide : ¬ ((0 : Int32) < (0 : Int32)))).2.2.2) (by decide) rfl ?_
  refine m_iloadN K X0.here hx hby d_method_2_9 rfl rfl ?_
  refine m_iconst K X0.here hx hby (1 : Int32) d_method_2_10 rfl rfl ?_
  refine m_icmpY K X0.here hx hby (q := 19) d_method_2_11 (flt (by decide : ¬ ((1 : Int32) < (0 : Int32)))).2.2.2 (by decide) rfl ?_
  refine m_iloadN K X0.here hx hby d_method_2_19 rfl rfl ?_
  refine m_iconst K X0.here hx hby (2 : Int32) d_method_2_20 rfl rfl ?_
  refine m_icmpY K X0.here hx hby (q := 29) d_method_2_21 (flt (by decide : ¬ ((2 : Int32) < (0 : Int32)))).2.2.2 (by decide) rfl ?_
  refine m_iloadN K X0.here hx hby d_method_2_29 rfl rfl ?_
  refine m_iconst K X0.here hx hby (3 : Int32) d_method_2_30 rfl rfl ?_
  refine m_icmpY K X0.here hx hby (q := 39) d_method_2_31 (flt (by decide : ¬ ((3 : Int32) < (0 : Int32)))).2.2.2 (by decide) rfl ?_
  refine m_iloadN K X0.here hx hby d_method_2_39 rfl rfl ?_
  refine m_iconst K X0.here hx hby (4 : Int32) d_method_2_40 rfl rfl ?_
  refine m_icmpY K X0.here hx hby (q := 49) d_method_2_41 (flt (by decide : ¬ ((4 : Int32) < (0 : Int32)))).2.2.2 (by decide) rfl ?_
  exact Go.retV X0 hx hby hlk hret d_method_2_49 (by decide) (by decide) (by rw [e0]; exact ⟨u0, u1, u2, rfl, N0, (Keep.refl h0 [x0, bu]), A_x0, A_bu⟩)
theorem d_method_2_4 : decode method_2_code 4 = .ok (.aload_n 0, 1) := by decide +kernel
theorem d_method_2_5 : decode method_2_code 5 = .ok (.iload_n 1, 1) := by decide +kernel
theorem d_method_2_6 : decode method_2_code 6 = .ok (.invokevirtual 7, 3) := by decide +kernel
theorem pd_2 : parseMethodDescriptor "(I)V" = some ⟨[.int], none⟩ := by decide +kernel
theorem ef7_0_1 (m : MethodId) (x0 : Addr) (x1 : Int32) (x2 : Int32) : entryFrame m #[(.ref x0), (.int x1), (.int x2)] 3 = mkF m 0 #[.val (.ref x0), .val (.int x1), .val (.int x2)] [] := by first | (simp [entryFrame, mkF, argsToLocals, Value.category]; done) | rfl
set_option maxRecDepth 65536 in
set_option maxHeartbeats 40000000 in
theorem c7_0_1 (l : Launch) (Z : State) (a0 : Array Value) (hw : ∀ d ∈ tables_1, d.before a0 Z = true) (a1 : Addr) (bo : Addr) (bu : Addr) (x0 : Addr) (x1 : Addr) (x2 : Addr) (u0 : Int32) (u1 : Int32) (u2 : Int32) (h0 : Heap) (n0 : Nat) (Z0 : n0 ≤ h0.size) (E_a1 : Exa Z h0 a1 "com/example/craterworks/craterworks/SharesStation") (F_occupied_a1 : Fld Z h0 a1 "com/example/craterworks/craterworks/SharesStation" "occupied" "[[Z" (.ref bo)) (F_uncovered_a1 : Fld Z h0 a1 "com/example/craterworks/craterworks/SharesStation" "uncovered" "[Z" (.ref bu)) (A_bo : Av Z h0 bo (.array .boolean) [(.ref x0), (.ref x1), (.ref x2)]) (A_x0 : Av Z h0 x0 .boolean [(.int (1 : Int32)), (.int (1 : Int32)), (.int (1 : Int32)), (.int (1 : Int32)), (.int (1 : Int32))]) (A_bu : Av Z h0 bu .boolean [(.int u0), (.int u1), (.int u2)]) (g_x0 : n0 ≤ x0) (g_bu : n0 ≤ bu) (ne_a1_x0 : a1 ≠ x0) (ne_a1_bu : a1 ≠ bu) (ne_bo_x0 : bo ≠ x0) (ne_bo_bu : bo ≠ bu) (ne_x0_bu : x0 ≠ bu) :
    Con l Z (⟨"com/example/craterworks/craterworks/SharesStationBranchesPinLaw", "takeN", "(Lcom/example/craterworks/craterworks/SharesStation;II)V"⟩ : MethodName) method_2_code 3 none ({ frames := 1, cells := 0, slots := 0, locals := 14 } : Room) [] #[(.ref a1), (.int (0 : Int32)), (.int (1 : Int32))] h0 (fun v h L => ∃ zu0 : Int32, ∃ zu1 : Int32, ∃ zu2 : Int32, v = none ∧ Fr n0 L ∧ Keep h0 h [x0, bu] ∧ Av Z h x0 .boolean [(.int (0 : Int32)), (.int (1 : Int32)), (.int (1 : Int32)), (.int (1 : Int32)), (.int (1 : Int32))] ∧ Av Z h bu .boolean [(.int zu0), (.int zu1), (.int zu2)]) := by
  refine Con.of (plainFor_of_name pn_com_example_craterworks_craterworks_SharesStationBranchesPinLaw) #[.val (.ref a1), .val (.int (0 : Int32)), .val (.int (1 : Int32))] (fun m => ef7_0_1 m a1 (0 : Int32) (1 : Int32)) ?_
  intro p e s m below meth c s₁ K hx hby hml hown hnm hret hlk hZ X0 e0
  have N0 := Fr.nil n0
  refine m_iloadN K X0.here hx hby d_method_2_0 rfl rfl ?_
  refine m_ifN K X0.here hx hby (q := 4) d_method_2_1 ((if0 _ _).trans (tlt (by decide : (0 : Int32) < (1 : Int32))).2.2.2) rfl ?_
  refine m_aloadN K X0.here hx hby d_method_2_4 rfl rfl rfl ?_
  refine m_iloadN K X0.here hx hby d_method_2_5 rfl rfl ?_
  refine k_callV K X0 hx hby hZ a1 [(.int (0 : Int32))] [] hown (hw _ (List.mem_of_getElem? (i := 52) rfl)) (hw _ (List.mem_of_getElem? (i := 53) rfl)) (notFace_of_selects (args := #[]) (mvT hZ (hw _ (List.mem_of_getElem? (i := 55) rfl)))) (hw _ (List.mem_of_getElem? (i := 55) rfl)) (hw _ (List.mem_of_getElem? (i := 54) rfl)) (hw _ (List.mem_of_getElem? (i := 30) rfl)) (hw _ (List.mem_of_getElem? (i := 56) rfl)) (c8_0_0 l Z a0 hw a1 bo bu x0 x1 x2 u0 u1 u2 h0 n0 Z0 E_a1 F_occupied_a1 F_uncovered_a1 A_bo A_x0 A_bu g_x0 g_bu ne_a1_x0 ne_a1_bu ne_bo_x0 ne_bo_bu ne_x0_bu) e0 E_a1 rfl rfl pd_2 rfl d_method_2_6 (by rw [hml]; rfl) rfl (by decide) (by decide) (Nat.le_of_ble_eq_true rfl) (by decide) (by decide) fun v1 T1 L1 X1 q1 => ?_
  obtain ⟨zu0_1, zu1_1, zu2_1, rfl, Nq1, K1, Ap1_0, Ap1_1⟩ := q1
  have N1 := Fr.app N0 Nq1
  refine k_none K ?_
  refine m_iloadN K X1.here hx hby d_method_2_9 rfl rfl ?_
  refine m_iconst K X1.here hx hby (1 : Int32) d_method_2_10 rfl rfl ?_
  refine m_icmpY K X1.here hx hby (q := 19) d_method_2_11 (flt (by decide : ¬ ((1 : Int32) < (1 : Int32)))).2.2.2 (by decide) rfl ?_
  refine m_iloadN K X1.here hx hby d_method_2_19 rfl rfl ?_
  refine m_iconst K X1.here hx hby (2 : Int32) d_method_2_20 rfl rfl ?_
  refine m_icmpY K X1.here hx hby (q := 29) d_method_2_21 (flt (by decide : ¬ ((2 : Int32) < (1 : Int32)))).2.2.2 (by decide) rfl ?_
  refine m_iloadN K X1.here hx hby d_method_2_29 rfl rfl ?_
  refine m_iconst K X1.here hx hby (3 : Int32) d_method_2_30 rfl rfl ?_
  refine m_icmpY K X1.here hx hby (q := 39) d_method_2_31 (flt (by decide : ¬ ((3 : Int32) < (1 : Int32)))).2.2.2 (by decide) rfl ?_
  refine m_iloadN K X1.here hx hby d_method_2_39 rfl rfl ?_
  refine m_iconst K X1.here hx hby (4 : Int32) d_method_2_40 rfl rfl ?_
  refine m_icmpY K X1.here hx hby (q := 49) d_method_2_41 (flt (by decide : ¬ ((4 : Int32) < (1 : Int32)))).2.2.2 (by decide) rfl ?_
  exact Go.retV X1 hx hby hlk hret d_method_2_49 (by decide) (by decide) (⟨zu0_1, zu1_1, zu2_1, rfl, N1, ((Keep.refl h0 [x0, bu]).trans K1 (allS (Or.inl (by simp)) (allS (Or.inl (by simp)) all0))), Ap1_0, Ap1_1⟩)
theorem d_method_2_14 : decode method_2_code 14 = .ok (.aload_n 0, 1) := by decide +kernel
theorem d_method_2_15 : decode method_2_code 15 = .ok (.iload_n 1, 1) := by decide +kernel
theorem d_method_2_16 : decode method_2_code 16 = .ok (.invokevirtual 7, 3) := by decide +kernel
theorem ef7_0_2 (m : MethodId) (x0 : Addr) (x1 : Int32) (x2 : Int32) : entryFrame m #[(.ref x0), (.int x1), (.int x2)] 3 = mkF m 0 #[.val (.ref x0), .val (.int x1), .val (.int x2)] [] := by first | (simp [entryFrame, mkF, argsToLocals, Value.category]; done) | rfl
set_option maxRecDepth 65536 in
set_option maxHeartbeats 40000000 in
theorem c7_0_2 (l : Launch) (Z : State) (a0 : Array Value) (hw : ∀ d ∈ tables_1, d.before a0 Z = true) (a1 : Addr) (bo : Addr) (bu : Addr) (x0 : Addr) (x1 : Addr) (x2 : Addr) (u0 : Int32) (u1 : Int32) (u2 : Int32) (h0 : Heap) (n0 : Nat) (Z0 : n0 ≤ h0.size) (E_a1 : Exa Z h0 a1 "com/example/craterworks/craterworks/SharesStation") (F_occupied_a1 : Fld Z h0 a1 "com/example/craterworks/craterworks/SharesStation" "occupied" "[[Z" (.ref bo)) (F_uncovered_a1 : Fld Z h0 a1 "com/example/craterworks/craterworks/SharesStation" "uncovered" "[Z" (.ref bu)) (A_bo : Av Z h0 bo (.array .boolean) [(.ref x0), (.ref x1), (.ref x2)]) (A_x0 : Av Z h0 x0 .boolean [(.int (1 : Int32)), (.int (1 : Int32)), (.int (1 : Int32)), (.int (1 : Int32)), (.int (1 : Int32))]) (A_bu : Av Z h0 bu .boolean [(.int u0), (.int u1), (.int u2)]) (g_x0 : n0 ≤ x0) (g_bu : n0 ≤ bu) (ne_a1_x0 : a1 ≠ x0) (ne_a1_bu : a1 ≠ bu) (ne_bo_x0 : bo ≠ x0) (ne_bo_bu : bo ≠ bu) (ne_x0_bu : x0 ≠ bu) :
    Con l Z (⟨"com/example/craterworks/craterworks/SharesStationBranchesPinLaw", "takeN", "(Lcom/example/craterworks/craterworks/SharesStation;II)V"⟩ : MethodName) method_2_code 3 none ({ frames := 1, cells := 0, slots := 0, locals := 14 } : Room) [] #[(.ref a1), (.int (0 : Int32)), (.int (2 : Int32))] h0 (fun v h L => ∃ zu0 : Int32, ∃ zu1 : Int32, ∃ zu2 : Int32, v = none ∧ Fr n0 L ∧ Keep h0 h [x0, bu] ∧ Av Z h x0 .boolean [(.int (0 : Int32)), (.int (0 : Int32)), (.int (1 : Int32)), (.int (1 : Int32)), (.int (1 : Int32))] ∧ Av Z h bu .boolean [(.int zu0), (.int zu1), (.int zu2)]) := by
  refine Con.of (plainFor_of_name pn_com_example_craterworks_craterworks_SharesStationBranchesPinLaw) #[.val (.ref a1), .val (.int (0 : Int32)), .val (.int (2 : Int32))] (fun m => ef7_0_2 m a1 (0 : Int32) (2 : Int32)) ?_
  intro p e s m below meth c s₁ K hx hby hml hown hnm hret hlk hZ X0 e0
  have N0 := Fr.nil n0
  refine m_iloadN K X0.here hx hby d_method_2_0 rfl rfl ?_
  refine m_ifN K X0.here hx hby (q := 4) d_method_2_1 ((if0 _ _).trans (tlt (by decide : (0 : Int32) < (2 : Int32))).2.2.2) rfl ?_
  refine m_aloadN K X0.here hx hby d_method_2_4 rfl rfl rfl ?_
  refine m_iloadN K X0.here hx hby d_method_2_5 rfl rfl ?_
  refine k_callV K X0 hx hby hZ a1 [(.int (0 : Int32))] [] hown (hw _ (List.mem_of_getElem? (i := 52) rfl)) (hw _ (List.mem_of_getElem? (i := 53) rfl)) (notFace_of_selects (args := #[]) (mvT hZ (hw _ (List.mem_of_getElem? (i := 55) rfl)))) (hw _ (List.mem_of_getElem? (i := 55) rfl)) (hw _ (List.mem_of_getElem? (i := 54) rfl)) (hw _ (List.mem_of_getElem? (i := 30) rfl)) (hw _ (List.mem_of_getElem? (i := 56) rfl)) (c8_0_0 l Z a0 hw a1 bo bu x0 x1 x2 u0 u1 u2 h0 n0 Z0 E_a1 F_occupied_a1 F_uncovered_a1 A_bo A_x0 A_bu g_x0 g_bu ne_a1_x0 ne_a1_bu ne_bo_x0 ne_bo_bu ne_x0_bu) e0 E_a1 rfl rfl pd_2 rfl d_method_2_6 (by rw [hml]; rfl) rfl (by decide) (by decide) (Nat.le_of_ble_eq_true rfl) (by decide) (by decide) fun v1 T1 L1 X1 q1 => ?_
  obtain ⟨zu0_1, zu1_1, zu2_1, rfl, Nq1, K1, Ap1_0, Ap1_1⟩ := q1
  have N1 := Fr.app N0 Nq1
  refine k_none K ?_
  refine m_iloadN K X1.here hx hby d_method_2_9 rfl rfl ?_
  refine m_iconst K X1.here hx hby (1 : Int32) d_method_2_10 rfl rfl ?_
  refine m_icmpN K X1.here hx hby (q := 14) d_method_2_11 (tlt (by decide : (1 : Int32) < (2 : Int32))).2.2.2 rfl ?_
  refine m_aloadN K X1.here hx hby d_method_2_14 rfl rfl rfl ?_
  refine m_iloadN K X1.here hx hby d_method_2_15 rfl rfl ?_
  refine k_callV K X1 hx hby hZ a1 [(.int (0 : Int32))] [] hown (hw _ (List.mem_of_getElem? (i := 52) rfl)) (hw _ (List.mem_of_getElem? (i := 53) rfl)) (notFace_of_selects (args := #[]) (mvT hZ (hw _ (List.mem_of_getElem? (i := 55) rfl)))) (hw _ (List.mem_of_getElem? (i := 55) rfl)) (hw _ (List.mem_of_getElem? (i := 54) rfl)) (hw _ (List.mem_of_getElem? (i := 30) rfl)) (hw _ (List.mem_of_getElem? (i := 56) rfl)) (c8_0_1 l Z a0 hw a1 bo bu x0 x1 x2 zu0_1 zu1_1 zu2_1 T1.heap n0 (Nat.le_trans Z0 (Nat.le_trans (Nat.le_refl _) K1.1)) (E_a1.keep K1) (F_occupied_a1.keep K1 (ninS ne_a1_x0 (ninS ne_a1_bu nin0))) (F_uncovered_a1.keep K1 (ninS ne_a1_x0 (ninS ne_a1_bu nin0))) (A_bo.keep K1 (ninS ne_bo_x0 (ninS ne_bo_bu nin0))) Ap1_0 Ap1_1 g_x0 g_bu ne_a1_x0 ne_a1_bu ne_bo_x0 ne_bo_bu ne_x0_bu) rfl (E_a1.keep K1) rfl rfl pd_2 rfl d_method_2_16 (by rw [hml]; rfl) rfl (by decide) (by decide) (Nat.le_of_ble_eq_true rfl) (by decide) (by decide) fun v2 T2 L2 X2 q2 => ?_
  obtain ⟨zu0_2, zu1_2, zu2_2, rfl, Nq2, K2, Ap2_0, Ap2_1⟩ := q2
  have N2 := Fr.app N1 Nq2
  refine k_none K ?_
  refine m_iloadN K X2.here hx hby d_method_2_19 rfl rfl ?_
  refine m_iconst K X2.here hx hby (2 : Int32) d_method_2_20 rfl rfl ?_
  refine m_icmpY K X2.here hx hby (q := 29) d_method_2_21 (flt (by decide : ¬ ((2 : Int32) < (2 : Int32)))).2.2.2 (by decide) rfl ?_
  refine m_iloadN K X2.here hx hby d_method_2_29 rfl rfl ?_
  refine m_iconst K X2.here hx hby (3 : Int32) d_method_2_30 rfl rfl ?_
  refine m_icmpY K X2.here hx hby (q := 39) d_method_2_31 (flt (by decide : ¬ ((3 : Int32) < (2 : Int32)))).2.2.2 (by decide) rfl ?_
  refine m_iloadN K X2.here hx hby d_method_2_39 rfl rfl ?_
  refine m_iconst K X2.here hx hby (4 : Int32) d_method_2_40 rfl rfl ?_
  refine m_icmpY K X2.here hx hby (q := 49) d_method_2_41 (flt (by decide : ¬ ((4 : Int32) < (2 : Int32)))).2.2.2 (by decide) rfl ?_
  exact Go.retV X2 hx hby hlk hret d_method_2_49 (by decide) (by decide) (⟨zu0_2, zu1_2, zu2_2, rfl, N2, (((Keep.refl h0 [x0, bu]).trans K1 (allS (Or.inl (by simp)) (allS (Or.inl (by simp)) all0))).trans K2 (allS (Or.inl (by simp)) (allS (Or.inl (by simp)) all0))), Ap2_0, Ap2_1⟩)
theorem d_method_2_24 : decode method_2_code 24 = .ok (.aload_n 0, 1) := by decide +kernel
theorem d_method_2_25 : decode method_2_code 25 = .ok (.iload_n 1, 1) := by decide +kernel
theorem d_method_2_26 : decode method_2_code 26 = .ok (.invokevirtual 7, 3) := by decide +kernel
theorem ef7_0_3 (m : MethodId) (x0 : Addr) (x1 : Int32) (x2 : Int32) : entryFrame m #[(.ref x0), (.int x1), (.int x2)] 3 = mkF m 0 #[.val (.ref x0), .val (.int x1), .val (.int x2)] [] := by first | (simp [entryFrame, mkF, argsToLocals, Value.category]; done) | rfl
set_option maxRecDepth 65536 in
set_option maxHeartbeats 40000000 in
theorem c7_0_3 (l : Launch) (Z : State) (a0 : Array Value) (hw : ∀ d ∈ tables_1, d.before a0 Z = true) (a1 : Addr) (bo : Addr) (bu : Addr) (x0 : Addr) (x1 : Addr) (x2 : Addr) (u0 : Int32) (u1 : Int32) (u2 : Int32) (h0 : Heap) (n0 : Nat) (Z0 : n0 ≤ h0.size) (E_a1 : Exa Z h0 a1 "com/example/craterworks/craterworks/SharesStation") (F_occupied_a1 : Fld Z h0 a1 "com/example/craterworks/craterworks/SharesStation" "occupied" "[[Z" (.ref bo)) (F_uncovered_a1 : Fld Z h0 a1 "com/example/craterworks/craterworks/SharesStation" "uncovered" "[Z" (.ref bu)) (A_bo : Av Z h0 bo (.array .boolean) [(.ref x0), (.ref x1), (.ref x2)]) (A_x0 : Av Z h0 x0 .boolean [(.int (1 : Int32)), (.int (1 : Int32)), (.int (1 : Int32)), (.int (1 : Int32)), (.int (1 : Int32))]) (A_bu : Av Z h0 bu .boolean [(.int u0), (.int u1), (.int u2)]) (g_x0 : n0 ≤ x0) (g_bu : n0 ≤ bu) (ne_a1_x0 : a1 ≠ x0) (ne_a1_bu : a1 ≠ bu) (ne_bo_x0 : bo ≠ x0) (ne_bo_bu : bo ≠ bu) (ne_x0_bu : x0 ≠ bu) :
    Con l Z (⟨"com/example/craterworks/craterworks/SharesStationBranchesPinLaw", "takeN", "(Lcom/example/craterworks/craterworks/SharesStation;II)V"⟩ : MethodName) method_2_code 3 none ({ frames := 1, cells := 0, slots := 0, locals := 14 } : Room) [] #[(.ref a1), (.int (0 : Int32)), (.int (3 : Int32))] h0 (fun v h L => ∃ zu0 : Int32, ∃ zu1 : Int32, ∃ zu2 : Int32, v = none ∧ Fr n0 L ∧ Keep h0 h [x0, bu] ∧ Av Z h x0 .boolean [(.int (0 : Int32)), (.int (0 : Int32)), (.int (0 : Int32)), (.int (1 : Int32)), (.int (1 : Int32))] ∧ Av Z h bu .boolean [(.int zu0), (.int zu1), (.int zu2)]) := by
  refine Con.of (plainFor_of_name pn_com_example_craterworks_craterworks_SharesStationBranchesPinLaw) #[.val (.ref a1), .val (.int (0 : Int32)), .val (.int (3 : Int32))] (fun m => ef7_0_3 m a1 (0 : Int32) (3 : Int32)) ?_
  intro p e s m below meth c s₁ K hx hby hml hown hnm hret hlk hZ X0 e0
  have N0 := Fr.nil n0
  refine m_iloadN K X0.here hx hby d_method_2_0 rfl rfl ?_
  refine m_ifN K X0.here hx hby (q := 4) d_method_2_1 ((if0 _ _).trans (tlt (by decide : (0 : Int32) < (3 : Int32))).2.2.2) rfl ?_
  refine m_aloadN K X0.here hx hby d_method_2_4 rfl rfl rfl ?_
  refine m_iloadN K X0.here hx hby d_method_2_5 rfl rfl ?_
  refine k_callV K X0 hx hby hZ a1 [(.int (0 : Int32))] [] hown (hw _ (List.mem_of_getElem? (i := 52) rfl)) (hw _ (List.mem_of_getElem? (i := 53) rfl)) (notFace_of_selects (args := #[]) (mvT hZ (hw _ (List.mem_of_getElem? (i := 55) rfl)))) (hw _ (List.mem_of_getElem? (i := 55) rfl)) (hw _ (List.mem_of_getElem? (i := 54) rfl)) (hw _ (List.mem_of_getElem? (i := 30) rfl)) (hw _ (List.mem_of_getElem? (i := 56) rfl)) (c8_0_0 l Z a0 hw a1 bo bu x0 x1 x2 u0 u1 u2 h0 n0 Z0 E_a1 F_occupied_a1 F_uncovered_a1 A_bo A_x0 A_bu g_x0 g_bu ne_a1_x0 ne_a1_bu ne_bo_x0 ne_bo_bu ne_x0_bu) e0 E_a1 rfl rfl pd_2 rfl d_method_2_6 (by rw [hml]; rfl) rfl (by decide) (by decide) (Nat.le_of_ble_eq_true rfl) (by decide) (by decide) fun v1 T1 L1 X1 q1 => ?_
  obtain ⟨zu0_1, zu1_1, zu2_1, rfl, Nq1, K1, Ap1_0, Ap1_1⟩ := q1
  have N1 := Fr.app N0 Nq1
  refine k_none K ?_
  refine m_iloadN K X1.here hx hby d_method_2_9 rfl rfl ?_
  refine m_iconst K X1.here hx hby (1 : Int32) d_method_2_10 rfl rfl ?_
  refine m_icmpN K X1.here hx hby (q := 14) d_method_2_11 (tlt (by decide : (1 : Int32) < (3 : Int32))).2.2.2 rfl ?_
  refine m_aloadN K X1.here hx hby d_method_2_14 rfl rfl rfl ?_
  refine m_iloadN K X1.here hx hby d_method_2_15 rfl rfl ?_
  refine k_callV K X1 hx hby hZ a1 [(.int (0 : Int32))] [] hown (hw _ (List.mem_of_getElem? (i := 52) rfl)) (hw _ (List.mem_of_getElem? (i := 53) rfl)) (notFace_of_selects (args := #[]) (mvT hZ (hw _ (List.mem_of_getElem? (i := 55) rfl)))) (hw _ (List.mem_of_getElem? (i := 55) rfl)) (hw _ (List.mem_of_getElem? (i := 54) rfl)) (hw _ (List.mem_of_getElem? (i := 30) rfl)) (hw _ (List.mem_of_getElem? (i := 56) rfl)) (c8_0_1 l Z a0 hw a1 bo bu x0 x1 x2 zu0_1 zu1_1 zu2_1 T1.heap n0 (Nat.le_trans Z0 (Nat.le_trans (Nat.le_refl _) K1.1)) (E_a1.keep K1) (F_occupied_a1.keep K1 (ninS ne_a1_x0 (ninS ne_a1_bu nin0))) (F_uncovered_a1.keep K1 (ninS ne_a1_x0 (ninS ne_a1_bu nin0))) (A_bo.keep K1 (ninS ne_bo_x0 (ninS ne_bo_bu nin0))) Ap1_0 Ap1_1 g_x0 g_bu ne_a1_x0 ne_a1_bu ne_bo_x0 ne_bo_bu ne_x0_bu) rfl (E_a1.keep K1) rfl rfl pd_2 rfl d_method_2_16 (by rw [hml]; rfl) rfl (by decide) (by decide) (Nat.le_of_ble_eq_true rfl) (by decide) (by decide) fun v2 T2 L2 X2 q2 => ?_
  obtain ⟨zu0_2, zu1_2, zu2_2, rfl, Nq2, K2, Ap2_0, Ap2_1⟩ := q2
  have N2 := Fr.app N1 Nq2
  refine k_none K ?_
  refine m_iloadN K X2.here hx hby d_method_2_19 rfl rfl ?_
  refine m_iconst K X2.here hx hby (2 : Int32) d_method_2_20 rfl rfl ?_
  refine m_icmpN K X2.here hx hby (q := 24) d_method_2_21 (tlt (by decide : (2 : Int32) < (3 : Int32))).2.2.2 rfl ?_
  refine m_aloadN K X2.here hx hby d_method_2_24 rfl rfl rfl ?_
  refine m_iloadN K X2.here hx hby d_method_2_25 rfl rfl ?_
  refine k_callV K X2 hx hby hZ a1 [(.int (0 : Int32))] [] hown (hw _ (List.mem_of_getElem? (i := 52) rfl)) (hw _ (List.mem_of_getElem? (i := 53) rfl)) (notFace_of_selects (args := #[]) (mvT hZ (hw _ (List.mem_of_getElem? (i := 55) rfl)))) (hw _ (List.mem_of_getElem? (i := 55) rfl)) (hw _ (List.mem_of_getElem? (i := 54) rfl)) (hw _ (List.mem_of_getElem? (i := 30) rfl)) (hw _ (List.mem_of_getElem? (i := 56) rfl)) (c8_0_2 l Z a0 hw a1 bo bu x0 x1 x2 zu0_2 zu1_2 zu2_2 T2.heap n0 (Nat.le_trans Z0 (Nat.le_trans (Nat.le_trans (Nat.le_refl _) K1.1) K2.1)) ((E_a1.keep K1).keep K2) ((F_occupied_a1.keep K1 (ninS ne_a1_x0 (ninS ne_a1_bu nin0))).keep K2 (ninS ne_a1_x0 (ninS ne_a1_bu nin0))) ((F_uncovered_a1.keep K1 (ninS ne_a1_x0 (ninS ne_a1_bu nin0))).keep K2 (ninS ne_a1_x0 (ninS ne_a1_bu nin0))) ((A_bo.keep K1 (ninS ne_bo_x0 (ninS ne_bo_bu nin0))).keep K2 (ninS ne_bo_x0 (ninS ne_bo_bu nin0))) Ap2_0 Ap2_1 g_x0 g_bu ne_a1_x0 ne_a1_bu ne_bo_x0 ne_bo_bu ne_x0_bu) rfl ((E_a1.keep K1).keep K2) rfl rfl pd_2 rfl d_method_2_26 (by rw [hml]; rfl) rfl (by decide) (by decide) (Nat.le_of_ble_eq_true rfl) (by decide) (by decide) fun v3 T3 L3 X3 q3 => ?_
  obtain ⟨zu0_3, zu1_3, zu2_3, rfl, Nq3, K3, Ap3_0, Ap3_1⟩ := q3
  have N3 := Fr.app N2 Nq3
  refine k_none K ?_
  refine m_iloadN K X3.here hx hby d_method_2_29 rfl rfl ?_
  refine m_iconst K X3.here hx hby (3 : Int32) d_method_2_30 rfl rfl ?_
  refine m_icmpY K X3.here hx hby (q := 39) d_method_2_31 (flt (by decide : ¬ ((3 : Int32) < (3 : Int32)))).2.2.2 (by decide) rfl ?_
  refine m_iloadN K X3.here hx hby d_method_2_39 rfl rfl ?_
  refine m_iconst K X3.here hx hby (4 : Int32) d_method_2_40 rfl rfl ?_
  refine m_icmpY K X3.here hx hby (q := 49) d_method_2_41 (flt (by decide : ¬ ((4 : Int32) < (3 : Int32)))).2.2.2 (by decide) rfl ?_
  exact Go.retV X3 hx hby hlk hret d_method_2_49 (by decide) (by decide) (⟨zu0_3, zu1_3, zu2_3, rfl, N3, ((((Keep.refl h0 [x0, bu]).trans K1 (allS (Or.inl (by simp)) (allS (Or.inl (by simp)) all0))).trans K2 (allS (Or.inl (by simp)) (allS (Or.inl (by simp)) all0))).trans K3 (allS (Or.inl (by simp)) (allS (Or.inl (by simp)) all0))), Ap3_0, Ap3_1⟩)
theorem d_method_2_34 : decode method_2_code 34 = .ok (.aload_n 0, 1) := by decide +kernel
theorem d_method_2_35 : decode method_2_code 35 = .ok (.iload_n 1, 1) := by decide +kernel
theorem d_method_2_36 : decode method_2_code 36 = .ok (.invokevirtual 7, 3) := by decide +kernel
theorem ef7_0_4 (m : MethodId) (x0 : Addr) (x1 : Int32) (x2 : Int32) : entryFrame m #[(.ref x0), (.int x1), (.int x2)] 3 = mkF m 0 #[.val (.ref x0), .val (.int x1), .val (.int x2)] [] := by first | (simp [entryFrame, mkF, argsToLocals, Value.category]; done) | rfl
set_option maxRecDepth 65536 in
set_option maxHeartbeats 40000000 in
theorem c7_0_4 (l : Launch) (Z : State) (a0 : Array Value) (hw : ∀ d ∈ tables_1, d.before a0 Z = true) (a1 : Addr) (bo : Addr) (bu : Addr) (x0 : Addr) (x1 : Addr) (x2 : Addr) (u0 : Int32) (u1 : Int32) (u2 : Int32) (h0 : Heap) (n0 : Nat) (Z0 : n0 ≤ h0.size) (E_a1 : Exa Z h0 a1 "com/example/craterworks/craterworks/SharesStation") (F_occupied_a1 : Fld Z h0 a1 "com/example/craterworks/craterworks/SharesStation" "occupied" "[[Z" (.ref bo)) (F_uncovered_a1 : Fld Z h0 a1 "com/example/craterworks/craterworks/SharesStation" "uncovered" "[Z" (.ref bu)) (A_bo : Av Z h0 bo (.array .boolean) [(.ref x0), (.ref x1), (.ref x2)]) (A_x0 : Av Z h0 x0 .boolean [(.int (1 : Int32)), (.int (1 : Int32)), (.int (1 : Int32)), (.int (1 : Int32)), (.int (1 : Int32))]) (A_bu : Av Z h0 bu .boolean [(.int u0), (.int u1), (.int u2)]) (g_x0 : n0 ≤ x0) (g_bu : n0 ≤ bu) (ne_a1_x0 : a1 ≠ x0) (ne_a1_bu : a1 ≠ bu) (ne_bo_x0 : bo ≠ x0) (ne_bo_bu : bo ≠ bu) (ne_x0_bu : x0 ≠ bu) :
    Con l Z (⟨"com/example/craterworks/craterworks/SharesStationBranchesPinLaw", "takeN", "(Lcom/example/craterworks/craterworks/SharesStation;II)V"⟩ : MethodName) method_2_code 3 none ({ frames := 1, cells := 0, slots := 0, locals := 14 } : Room) [] #[(.ref a1), (.int (0 : Int32)), (.int (4 : Int32))] h0 (fun v h L => ∃ zu0 : Int32, ∃ zu1 : Int32, ∃ zu2 : Int32, v = none ∧ Fr n0 L ∧ Keep h0 h [x0, bu] ∧ Av Z h x0 .boolean [(.int (0 : Int32)), (.int (0 : Int32)), (.int (0 : Int32)), (.int (0 : Int32)), (.int (1 : Int32))] ∧ Av Z h bu .boolean [(.int zu0), (.int zu1), (.int zu2)]) := by
  refine Con.of (plainFor_of_name pn_com_example_craterworks_craterworks_SharesStationBranchesPinLaw) #[.val (.ref a1), .val (.int (0 : Int32)), .val (.int (4 : Int32))] (fun m => ef7_0_4 m a1 (0 : Int32) (4 : Int32)) ?_
  intro p e s m below meth c s₁ K hx hby hml hown hnm hret hlk hZ X0 e0
  have N0 := Fr.nil n0
  refine m_iloadN K X0.here hx hby d_method_2_0 rfl rfl ?_
  refine m_ifN K X0.here hx hby (q := 4) d_method_2_1 ((if0 _ _).trans (tlt (by decide : (0 : Int32) < (4 : Int32))).2.2.2) rfl ?_
  refine m_aloadN K X0.here hx hby d_method_2_4 rfl rfl rfl ?_
  refine m_iloadN K X0.here hx hby d_method_2_5 rfl rfl ?_
  refine k_callV K X0 hx hby hZ a1 [(.int (0 : Int32))] [] hown (hw _ (List.mem_of_getElem? (i := 52) rfl)) (hw _ (List.mem_of_getElem? (i := 53) rfl)) (notFace_of_selects (args := #[]) (mvT hZ (hw _ (List.mem_of_getElem? (i := 55) rfl)))) (hw _ (List.mem_of_getElem? (i := 55) rfl)) (hw _ (List.mem_of_getElem? (i := 54) rfl)) (hw _ (List.mem_of_getElem? (i := 30) rfl)) (hw _ (List.mem_of_getElem? (i := 56) rfl)) (c8_0_0 l Z a0 hw a1 bo bu x0 x1 x2 u0 u1 u2 h0 n0 Z0 E_a1 F_occupied_a1 F_uncovered_a1 A_bo A_x0 A_bu g_x0 g_bu ne_a1_x0 ne_a1_bu ne_bo_x0 ne_bo_bu ne_x0_bu) e0 E_a1 rfl rfl pd_2 rfl d_method_2_6 (by rw [hml]; rfl) rfl (by decide) (by decide) (Nat.le_of_ble_eq_true rfl) (by decide) (by decide) fun v1 T1 L1 X1 q1 => ?_
  obtain ⟨zu0_1, zu1_1, zu2_1, rfl, Nq1, K1, Ap1_0, Ap1_1⟩ := q1
  have N1 := Fr.app N0 Nq1
  refine k_none K ?_
  refine m_iloadN K X1.here hx hby d_method_2_9 rfl rfl ?_
  refine m_iconst K X1.here hx hby (1 : Int32) d_method_2_10 rfl rfl ?_
  refine m_icmpN K X1.here hx hby (q := 14) d_method_2_11 (tlt (by decide : (1 : Int32) < (4 : Int32))).2.2.2 rfl ?_
  refine m_aloadN K X1.here hx hby d_method_2_14 rfl rfl rfl ?_
  refine m_iloadN K X1.here hx hby d_method_2_15 rfl rfl ?_
  refine k_callV K X1 hx hby hZ a1 [(.int (0 : Int32))] [] hown (hw _ (List.mem_of_getElem? (i := 52) rfl)) (hw _ (List.mem_of_getElem? (i := 53) rfl)) (notFace_of_selects (args := #[]) (mvT hZ (hw _ (List.mem_of_getElem? (i := 55) rfl)))) (hw _ (List.mem_of_getElem? (i := 55) rfl)) (hw _ (List.mem_of_getElem? (i := 54) rfl)) (hw _ (List.mem_of_getElem? (i := 30) rfl)) (hw _ (List.mem_of_getElem? (i := 56) rfl)) (c8_0_1 l Z a0 hw a1 bo bu x0 x1 x2 zu0_1 zu1_1 zu2_1 T1.heap n0 (Nat.le_trans Z0 (Nat.le_trans (Nat.le_refl _) K1.1)) (E_a1.keep K1) (F_occupied_a1.keep K1 (ninS ne_a1_x0 (ninS ne_a1_bu nin0))) (F_uncovered_a1.keep K1 (ninS ne_a1_x0 (ninS ne_a1_bu nin0))) (A_bo.keep K1 (ninS ne_bo_x0 (ninS ne_bo_bu nin0))) Ap1_0 Ap1_1 g_x0 g_bu ne_a1_x0 ne_a1_bu ne_bo_x0 ne_bo_bu ne_x0_bu) rfl (E_a1.keep K1) rfl rfl pd_2 rfl d_method_2_16 (by rw [hml]; rfl) rfl (by decide) (by decide) (Nat.le_of_ble_eq_true rfl) (by decide) (by decide) fun v2 T2 L2 X2 q2 => ?_
  obtain ⟨zu0_2, zu1_2, zu2_2, rfl, Nq2, K2, Ap2_0, Ap2_1⟩ := q2
  have N2 := Fr.app N1 Nq2
  refine k_none K ?_
  refine m_iloadN K X2.here hx hby d_method_2_19 rfl rfl ?_
  refine m_iconst K X2.here hx hby (2 : Int32) d_method_2_20 rfl rfl ?_
  refine m_icmpN K X2.here hx hby (q := 24) d_method_2_21 (tlt (by decide : (2 : Int32) < (4 : Int32))).2.2.2 rfl ?_
  refine m_aloadN K X2.here hx hby d_method_2_24 rfl rfl rfl ?_
  refine m_iloadN K X2.here hx hby d_method_2_25 rfl rfl ?_
  refine k_callV K X2 hx hby hZ a1 [(.int (0 : Int32))] [] hown (hw _ (List.mem_of_getElem? (i := 52) rfl)) (hw _ (List.mem_of_getElem? (i := 53) rfl)) (notFace_of_selects (args := #[]) (mvT hZ (hw _ (List.mem_of_getElem? (i := 55) rfl)))) (hw _ (List.mem_of_getElem? (i := 55) rfl)) (hw _ (List.mem_of_getElem? (i := 54) rfl)) (hw _ (List.mem_of_getElem? (i := 30) rfl)) (hw _ (List.mem_of_getElem? (i := 56) rfl)) (c8_0_2 l Z a0 hw a1 bo bu x0 x1 x2 zu0_2 zu1_2 zu2_2 T2.heap n0 (Nat.le_trans Z0 (Nat.le_trans (Nat.le_trans (Nat.le_refl _) K1.1) K2.1)) ((E_a1.keep K1).keep K2) ((F_occupied_a1.keep K1 (ninS ne_a1_x0 (ninS ne_a1_bu nin0))).keep K2 (ninS ne_a1_x0 (ninS ne_a1_bu nin0))) ((F_uncovered_a1.keep K1 (ninS ne_a1_x0 (ninS ne_a1_bu nin0))).keep K2 (ninS ne_a1_x0 (ninS ne_a1_bu nin0))) ((A_bo.keep K1 (ninS ne_bo_x0 (ninS ne_bo_bu nin0))).keep K2 (ninS ne_bo_x0 (ninS ne_bo_bu nin0))) Ap2_0 Ap2_1 g_x0 g_bu ne_a1_x0 ne_a1_bu ne_bo_x0 ne_bo_bu ne_x0_bu) rfl ((E_a1.keep K1).keep K2) rfl rfl pd_2 rfl d_method_2_26 (by rw [hml]; rfl) rfl (by decide) (by decide) (Nat.le_of_ble_eq_true rfl) (by decide) (by decide) fun v3 T3 L3 X3 q3 => ?_
  obtain ⟨zu0_3, zu1_3, zu2_3, rfl, Nq3, K3, Ap3_0, Ap3_1⟩ := q3
  have N3 := Fr.app N2 Nq3
  refine k_none K ?_
  refine m_iloadN K X3.here hx hby d_method_2_29 rfl rfl ?_
  refine m_iconst K X3.here hx hby (3 : Int32) d_method_2_30 rfl rfl ?_
  refine m_icmpN K X3.here hx hby (q := 34) d_method_2_31 (tlt (by decide : (3 : Int32) < (4 : Int32))).2.2.2 rfl ?_
  refine m_aloadN K X3.here hx hby d_method_2_34 rfl rfl rfl ?_
  refine m_iloadN K X3.here hx hby d_method_2_35 rfl rfl ?_
  refine k_callV K X3 hx hby hZ a1 [(.int (0 : Int32))] [] hown (hw _ (List.mem_of_getElem? (i := 52) rfl)) (hw _ (List.mem_of_getElem? (i := 53) rfl)) (notFace_of_selects (args := #[]) (mvT hZ (hw _ (List.mem_of_getElem? (i := 55) rfl)))) (hw _ (List.mem_of_getElem? (i := 55) rfl)) (hw _ (List.mem_of_getElem? (i := 54) rfl)) (hw _ (List.mem_of_getElem? (i := 30) rfl)) (hw _ (List.mem_of_getElem? (i := 56) rfl)) (c8_0_3 l Z a0 hw a1 bo bu x0 x1 x2 zu0_3 zu1_3 zu2_3 T3.heap n0 (Nat.le_trans Z0 (Nat.le_trans (Nat.le_trans (Nat.le_trans (Nat.le_refl _) K1.1) K2.1) K3.1)) (((E_a1.keep K1).keep K2).keep K3) (((F_occupied_a1.keep K1 (ninS ne_a1_x0 (ninS ne_a1_bu nin0))).keep K2 (ninS ne_a1_x0 (ninS ne_a1_bu nin0))).keep K3 (ninS ne_a1_x0 (ninS ne_a1_bu nin0))) (((F_uncovered_a1.keep K1 (ninS ne_a1_x0 (ninS ne_a1_bu nin0))).keep K2 (ninS ne_a1_x0 (ninS ne_a1_bu nin0))).keep K3 (ninS ne_a1_x0 (ninS ne_a1_bu nin0))) (((A_bo.keep K1 (ninS ne_bo_x0 (ninS ne_bo_bu nin0))).keep K2 (ninS ne_bo_x0 (ninS ne_bo_bu nin0))).keep K3 (ninS ne_bo_x0 (ninS ne_bo_bu nin0))) Ap3_0 Ap3_1 g_x0 g_bu ne_a1_x0 ne_a1_bu ne_bo_x0 ne_bo_bu ne_x0_bu) rfl (((E_a1.keep K1).keep K2).keep K3) rfl rfl pd_2 rfl d_method_2_36 (by rw [hml]; rfl) rfl (by decide) (by decide) (Nat.le_of_ble_eq_true rfl) (by decide) (by decide) fun v4 T4 L4 X4 q4 => ?_
  obtain ⟨zu0_4, zu1_4, zu2_4, rfl, Nq4, K4, Ap4_0, Ap4_1⟩ := q4
  have N4 := Fr.app N3 Nq4
  refine k_none K ?_
  refine m_iloadN K X4.here hx hby d_method_2_39 rfl rfl ?_
  refine m_iconst K X4.here hx hby (4 : Int32) d_method_2_40 rfl rfl ?_
  refine m_icmpY K X4.here hx hby (q := 49) d_method_2_41 (flt (by decide : ¬ ((4 : Int32) < (4 : Int32)))).2.2.2 (by decide) rfl ?_
  exact Go.retV X4 hx hby hlk hret d_method_2_49 (by decide) (by decide) (⟨zu0_4, zu1_4, zu2_4, rfl, N4, (((((Keep.refl h0 [x0, bu]).trans K1 (allS (Or.inl (by simp)) (allS (Or.inl (by simp)) all0))).trans K2 (allS (Or.inl (by simp)) (allS (Or.inl (by simp)) all0))).trans K3 (allS (Or.inl (by simp)) (allS (Or.inl (by simp)) all0))).trans K4 (allS (Or.inl (by simp)) (allS (Or.inl (by simp)) all0))), Ap4_0, Ap4_1⟩)
theorem d_method_2_44 : decode method_2_code 44 = .ok (.aload_n 0, 1) := by decide +kernel
theorem d_method_2_45 : decode method_2_code 45 = .ok (.iload_n 1, 1) := by decide +kernel
theorem d_method_2_46 : decode method_2_code 46 = .ok (.invokevirtual 7, 3) := by decide +kernel
theorem ef7_0_5 (m : MethodId) (x0 : Addr) (x1 : Int32) (x2 : Int32) : entryFrame m #[(.ref x0), (.int x1), (.int x2)] 3 = mkF m 0 #[.val (.ref x0), .val (.int x1), .val (.int x2)] [] := by first | (simp [entryFrame, mkF, argsToLocals, Value.category]; done) | rfl
set_option maxRecDepth 65536 in
set_option maxHeartbeats 40000000 in
theorem c7_0_5 (l : Launch) (Z : State) (a0 : Array Value) (hw : ∀ d ∈ tables_1, d.before a0 Z = true) (a1 : Addr) (bo : Addr) (bu : Addr) (x0 : Addr) (x1 : Addr) (x2 : Addr) (u0 : Int32) (u1 : Int32) (u2 : Int32) (h0 : Heap) (n0 : Nat) (Z0 : n0 ≤ h0.size) (E_a1 : Exa Z h0 a1 "com/example/craterworks/craterworks/SharesStation") (F_occupied_a1 : Fld Z h0 a1 "com/example/craterworks/craterworks/SharesStation" "occupied" "[[Z" (.ref bo)) (F_uncovered_a1 : Fld Z h0 a1 "com/example/craterworks/craterworks/SharesStation" "uncovered" "[Z" (.ref bu)) (A_bo : Av Z h0 bo (.array .boolean) [(.ref x0), (.ref x1), (.ref x2)]) (A_x0 : Av Z h0 x0 .boolean [(.int (1 : Int32)), (.int (1 : Int32)), (.int (1 : Int32)), (.int (1 : Int32)), (.int (1 : Int32))]) (A_bu : Av Z h0 bu .boolean [(.int u0), (.int u1), (.int u2)]) (g_x0 : n0 ≤ x0) (g_bu : n0 ≤ bu) (ne_a1_x0 : a1 ≠ x0) (ne_a1_bu : a1 ≠ bu) (ne_bo_x0 : bo ≠ x0) (ne_bo_bu : bo ≠ bu) (ne_x0_bu : x0 ≠ bu) :
    Con l Z (⟨"com/example/craterworks/craterworks/SharesStationBranchesPinLaw", "takeN", "(Lcom/example/craterworks/craterworks/SharesStation;II)V"⟩ : MethodName) method_2_code 3 none ({ frames := 1, cells := 0, slots := 0, locals := 14 } : Room) [] #[(.ref a1), (.int (0 : Int32)), (.int (5 : Int32))] h0 (fun v h L => ∃ zu0 : Int32, ∃ zu1 : Int32, ∃ zu2 : Int32, v = none ∧ Fr n0 L ∧ Keep h0 h [x0, bu] ∧ Av Z h x0 .boolean [(.int (0 : Int32)), (.int (0 : Int32)), (.int (0 : Int32)), (.int (0 : Int32)), (.int (0 : Int32))] ∧ Av Z h bu .boolean [(.int zu0), (.int zu1), (.int zu2)]) := by
  refine Con.of (plainFor_of_name pn_com_example_craterworks_craterworks_SharesStationBranchesPinLaw) #[.val (.ref a1), .val (.int (0 : Int32)), .val (.int (5 : Int32))] (fun m => ef7_0_5 m a1 (0 : Int32) (5 : Int32)) ?_
  intro p e s m below meth c s₁ K hx hby hml hown hnm hret hlk hZ X0 e0
  have N0 := Fr.nil n0
  refine m_iloadN K X0.here hx hby d_method_2_0 rfl rfl ?_
  refine m_ifN K X0.here hx hby (q := 4) d_method_2_1 ((if0 _ _).trans (tlt (by decide : (0 : Int32) < (5 : Int32))).2.2.2) rfl ?_
  refine m_aloadN K X0.here hx hby d_method_2_4 rfl rfl rfl ?_
  refine m_iloadN K X0.here hx hby d_method_2_5 rfl rfl ?_
  refine k_callV K X0 hx hby hZ a1 [(.int (0 : Int32))] [] hown (hw _ (List.mem_of_getElem? (i := 52) rfl)) (hw _ (List.mem_of_getElem? (i := 53) rfl)) (notFace_of_selects (args := #[]) (mvT hZ (hw _ (List.mem_of_getElem? (i := 55) rfl)))) (hw _ (List.mem_of_getElem? (i := 55) rfl)) (hw _ (List.mem_of_getElem? (i := 54) rfl)) (hw _ (List.mem_of_getElem? (i := 30) rfl)) (hw _ (List.mem_of_getElem? (i := 56) rfl)) (c8_0_0 l Z a0 hw a1 bo bu x0 x1 x2 u0 u1 u2 h0 n0 Z0 E_a1 F_occupied_a1 F_uncovered_a1 A_bo A_x0 A_bu g_x0 g_bu ne_a1_x0 ne_a1_bu ne_bo_x0 ne_bo_bu ne_x0_bu) e0 E_a1 rfl rfl pd_2 rfl d_method_2_6 (by rw [hml]; rfl) rfl (by decide) (by decide) (Nat.le_of_ble_eq_true rfl) (by decide) (by decide) fun v1 T1 L1 X1 q1 => ?_
  obtain ⟨zu0_1, zu1_1, zu2_1, rfl, Nq1, K1, Ap1_0, Ap1_1⟩ := q1
  have N1 := Fr.app N0 Nq1
  refine k_none K ?_
  refine m_iloadN K X1.here hx hby d_method_2_9 rfl rfl ?_
  refine m_iconst K X1.here hx hby (1 : Int32) d_method_2_10 rfl rfl ?_
  refine m_icmpN K X1.here hx hby (q := 14) d_method_2_11 (tlt (by decide : (1 : Int32) < (5 : Int32))).2.2.2 rfl ?_
  refine m_aloadN K X1.here hx hby d_method_2_14 rfl rfl rfl ?_
  refine m_iloadN K X1.here hx hby d_method_2_15 rfl rfl ?_
  refine k_callV K X1 hx hby hZ a1 [(.int (0 : Int32))] [] hown (hw _ (List.mem_of_getElem? (i := 52) rfl)) (hw _ (List.mem_of_getElem? (i := 53) rfl)) (notFace_of_selects (args := #[]) (mvT hZ (hw _ (List.mem_of_getElem? (i := 55) rfl)))) (hw _ (List.mem_of_getElem? (i := 55) rfl)) (hw _ (List.mem_of_getElem? (i := 54) rfl)) (hw _ (List.mem_of_getElem? (i := 30) rfl)) (hw _ (List.mem_of_getElem? (i := 56) rfl)) (c8_0_1 l Z a0 hw a1 bo bu x0 x1 x2 zu0_1 zu1_1 zu2_1 T1.heap n0 (Nat.le_trans Z0 (Nat.le_trans (Nat.le_refl _) K1.1)) (E_a1.keep K1) (F_occupied_a1.keep K1 (ninS ne_a1_x0 (ninS ne_a1_bu nin0))) (F_uncovered_a1.keep K1 (ninS ne_a1_x0 (ninS ne_a1_bu nin0))) (A_bo.keep K1 (ninS ne_bo_x0 (ninS ne_bo_bu nin0))) Ap1_0 Ap1_1 g_x0 g_bu ne_a1_x0 ne_a1_bu ne_bo_x0 ne_bo_bu ne_x0_bu) rfl (E_a1.keep K1) rfl rfl pd_2 rfl d_method_2_16 (by rw [hml]; rfl) rfl (by decide) (by decide) (Nat.le_of_ble_eq_true rfl) (by decide) (by decide) fun v2 T2 L2 X2 q2 => ?_
  obtain ⟨zu0_2, zu1_2, zu2_2, rfl, Nq2, K2, Ap2_0, Ap2_1⟩ := q2
  have N2 := Fr.app N1 Nq2
  refine k_none K ?_
  refine m_iloadN K X2.here hx hby d_method_2_19 rfl rfl ?_
  refine m_iconst K X2.here hx hby (2 : Int32) d_method_2_20 rfl rfl ?_
  refine m_icmpN K X2.here hx hby (q := 24) d_method_2_21 (tlt (by decide : (2 : Int32) < (5 : Int32))).2.2.2 rfl ?_
  refine m_aloadN K X2.here hx hby d_method_2_24 rfl rfl rfl ?_
  refine m_iloadN K X2.here hx hby d_method_2_25 rfl rfl ?_
  refine k_callV K X2 hx hby hZ a1 [(.int (0 : Int32))] [] hown (hw _ (List.mem_of_getElem? (i := 52) rfl)) (hw _ (List.mem_of_getElem? (i := 53) rfl)) (notFace_of_selects (args := #[]) (mvT hZ (hw _ (List.mem_of_getElem? (i := 55) rfl)))) (hw _ (List.mem_of_getElem? (i := 55) rfl)) (hw _ (List.mem_of_getElem? (i := 54) rfl)) (hw _ (List.mem_of_getElem? (i := 30) rfl)) (hw _ (List.mem_of_getElem? (i := 56) rfl)) (c8_0_2 l Z a0 hw a1 bo bu x0 x1 x2 zu0_2 zu1_2 zu2_2 T2.heap n0 (Nat.le_trans Z0 (Nat.le_trans (Nat.le_trans (Nat.le_refl _) K1.1) K2.1)) ((E_a1.keep K1).keep K2) ((F_occupied_a1.keep K1 (ninS ne_a1_x0 (ninS ne_a1_bu nin0))).keep K2 (ninS ne_a1_x0 (ninS ne_a1_bu nin0))) ((F_uncovered_a1.keep K1 (ninS ne_a1_x0 (ninS ne_a1_bu nin0))).keep K2 (ninS ne_a1_x0 (ninS ne_a1_bu nin0))) ((A_bo.keep K1 (ninS ne_bo_x0 (ninS ne_bo_bu nin0))).keep K2 (ninS ne_bo_x0 (ninS ne_bo_bu nin0))) Ap2_0 Ap2_1 g_x0 g_bu ne_a1_x0 ne_a1_bu ne_bo_x0 ne_bo_bu ne_x0_bu) rfl ((E_a1.keep K1).keep K2) rfl rfl pd_2 rfl d_method_2_26 (by rw [hml]; rfl) rfl (by decide) (by decide) (Nat.le_of_ble_eq_true rfl) (by decide) (by decide) fun v3 T3 L3 X3 q3 => ?_
  obtain ⟨zu0_3, zu1_3, zu2_3, rfl, Nq3, K3, Ap3_0, Ap3_1⟩ := q3
  have N3 := Fr.app N2 Nq3
  refine k_none K ?_
  refine m_iloadN K X3.here hx hby d_method_2_29 rfl rfl ?_
  refine m_iconst K X3.here hx hby (3 : Int32) d_method_2_30 rfl rfl ?_
  refine m_icmpN K X3.here hx hby (q := 34) d_method_2_31 (tlt (by decide : (3 : Int32) < (5 : Int32))).2.2.2 rfl ?_
  refine m_aloadN K X3.here hx hby d_method_2_34 rfl rfl rfl ?_
  refine m_iloadN K X3.here hx hby d_method_2_35 rfl rfl ?_
  refine k_callV K X3 hx hby hZ a1 [(.int (0 : Int32))] [] hown (hw _ (List.mem_of_getElem? (i := 52) rfl)) (hw _ (List.mem_of_getElem? (i := 53) rfl)) (notFace_of_selects (args := #[]) (mvT hZ (hw _ (List.mem_of_getElem? (i := 55) rfl)))) (hw _ (List.mem_of_getElem? (i := 55) rfl)) (hw _ (List.mem_of_getElem? (i := 54) rfl)) (hw _ (List.mem_of_getElem? (i := 30) rfl)) (hw _ (List.mem_of_getElem? (i := 56) rfl)) (c8_0_3 l Z a0 hw a1 bo bu x0 x1 x2 zu0_3 zu1_3 zu2_3 T3.heap n0 (Nat.le_trans Z0 (Nat.le_trans (Nat.le_trans (Nat.le_trans (Nat.le_refl _) K1.1) K2.1) K3.1)) (((E_a1.keep K1).keep K2).keep K3) (((F_occupied_a1.keep K1 (ninS ne_a1_x0 (ninS ne_a1_bu nin0))).keep K2 (ninS ne_a1_x0 (ninS ne_a1_bu nin0))).keep K3 (ninS ne_a1_x0 (ninS ne_a1_bu nin0))) (((F_uncovered_a1.keep K1 (ninS ne_a1_x0 (ninS ne_a1_bu nin0))).keep K2 (ninS ne_a1_x0 (ninS ne_a1_bu nin0))).keep K3 (ninS ne_a1_x0 (ninS ne_a1_bu nin0))) (((A_bo.keep K1 (ninS ne_bo_x0 (ninS ne_bo_bu nin0))).keep K2 (ninS ne_bo_x0 (ninS ne_bo_bu nin0))).keep K3 (ninS ne_bo_x0 (ninS ne_bo_bu nin0))) Ap3_0 Ap3_1 g_x0 g_bu ne_a1_x0 ne_a1_bu ne_bo_x0 ne_bo_bu ne_x0_bu) rfl (((E_a1.keep K1).keep K2).keep K3) rfl rfl pd_2 rfl d_method_2_36 (by rw [hml]; rfl) rfl (by decide) (by decide) (Nat.le_of_ble_eq_true rfl) (by decide) (by decide) fun v4 T4 L4 X4 q4 => ?_
  obtain ⟨zu0_4, zu1_4, zu2_4, rfl, Nq4, K4, Ap4_0, Ap4_1⟩ := q4
  have N4 := Fr.app N3 Nq4
  refine k_none K ?_
  refine m_iloadN K X4.here hx hby d_method_2_39 rfl rfl ?_
  refine m_iconst K X4.here hx hby (4 : Int32) d_method_2_40 rfl rfl ?_
  refine m_icmpN K X4.here hx hby (q := 44) d_method_2_41 (tlt (by decide : (4 : Int32) < (5 : Int32))).2.2.2 rfl ?_
  refine m_aloadN K X4.here hx hby d_method_2_44 rfl rfl rfl ?_
  refine m_iloadN K X4.here hx hby d_method_2_45 rfl rfl ?_
  refine k_callV K X4 hx hby hZ a1 [(.int (0 : Int32))] [] hown (hw _ (List.mem_of_getElem? (i := 52) rfl)) (hw _ (List.mem_of_getElem? (i := 53) rfl)) (notFace_of_selects (args := #[]) (mvT hZ (hw _ (List.mem_of_getElem? (i := 55) rfl)))) (hw _ (List.mem_of_getElem? (i := 55) rfl)) (hw _ (List.mem_of_getElem? (i := 54) rfl)) (hw _ (List.mem_of_getElem? (i := 30) rfl)) (hw _ (List.mem_of_getElem? (i := 56) rfl)) (c8_0_4 l Z a0 hw a1 bo bu x0 x1 x2 zu0_4 zu1_4 zu2_4 T4.heap n0 (Nat.le_trans Z0 (Nat.le_trans (Nat.le_trans (Nat.le_trans (Nat.le_trans (Nat.le_refl _) K1.1) K2.1) K3.1) K4.1)) ((((E_a1.keep K1).keep K2).keep K3).keep K4) ((((F_occupied_a1.keep K1 (ninS ne_a1_x0 (ninS ne_a1_bu nin0))).keep K2 (ninS ne_a1_x0 (ninS ne_a1_bu nin0))).keep K3 (ninS ne_a1_x0 (ninS ne_a1_bu nin0))).keep K4 (ninS ne_a1_x0 (ninS ne_a1_bu nin0))) ((((F_uncovered_a1.keep K1 (ninS ne_a1_x0 (ninS ne_a1_bu nin0))).keep K2 (ninS ne_a1_x0 (ninS ne_a1_bu nin0))).keep K3 (ninS ne_a1_x0 (ninS ne_a1_bu nin0))).keep K4 (ninS ne_a1_x0 (ninS ne_a1_bu nin0))) ((((A_bo.keep K1 (ninS ne_bo_x0 (ninS ne_bo_bu nin0))).keep K2 (ninS ne_bo_x0 (ninS ne_bo_bu nin0))).keep K3 (ninS ne_bo_x0 (ninS ne_bo_bu nin0))).keep K4 (ninS ne_bo_x0 (ninS ne_bo_bu nin0))) Ap4_0 Ap4_1 g_x0 g_bu ne_a1_x0 ne_a1_bu ne_bo_x0 ne_bo_bu ne_x0_bu) rfl ((((E_a1.keep K1).keep K2).keep K3).keep K4) rfl rfl pd_2 rfl d_method_2_46 (by rw [hml]; rfl) rfl (by decide) (by decide) (Nat.le_of_ble_eq_true rfl) (by decide) (by decide) fun v5 T5 L5 X5 q5 => ?_
  obtain ⟨zu0_5, zu1_5, zu2_5, rfl, Nq5, K5, Ap5_0, Ap5_1⟩ := q5
  have N5 := Fr.app N4 Nq5
  refine k_none K ?_
  exact Go.retV X5 hx hby hlk hret d_method_2_49 (by decide) (by decide) (⟨zu0_5, zu1_5, zu2_5, rfl, N5, ((((((Keep.refl h0 [x0, bu]).trans K1 (allS (Or.inl (by simp)) (allS (Or.inl (by simp)) all0))).trans K2 (allS (Or.inl (by simp)) (allS (Or.inl (by simp)) all0))).trans K3 (allS (Or.inl (by simp)) (allS (Or.inl (by simp)) all0))).trans K4 (allS (Or.inl (by simp)) (allS (Or.inl (by simp)) all0))).trans K5 (allS (Or.inl (by simp)) (allS (Or.inl (by simp)) all0))), Ap5_0, Ap5_1⟩)
theorem ef7_1_0 (m : MethodId) (x0 : Addr) (x1 : Int32) (x2 : Int32) : entryFrame m #[(.ref x0), (.int x1), (.int x2)] 3 = mkF m 0 #[.val (.ref x0), .val (.int x1), .val (.int x2)] [] := by first | (simp [entryFrame, mkF, argsToLocals, Value.category]; done) | rfl
set_option maxRecDepth 65536 in
set_option maxHeartbeats 40000000 in
theorem c7_1_0 (l : Launch) (Z : State) (a0 : Array Value) (hw : ∀ d ∈ tables_1, d.before a0 Z = true) (a1 : Addr) (bo : Addr) (bu : Addr) (x0 : Addr) (x1 : Addr) (x2 : Addr) (u0 : Int32) (u1 : Int32) (u2 : Int32) (h0 : Heap) (n0 : Nat) (Z0 : n0 ≤ h0.size) (E_a1 : Exa Z h0 a1 "com/example/craterworks/craterworks/SharesStation") (F_occupied_a1 : Fld Z h0 a1 "com/example/craterworks/craterworks/SharesStation" "occupied" "[[Z" (.ref bo)) (F_uncovered_a1 : Fld Z h0 a1 "com/example/craterworks/craterworks/SharesStation" "uncovered" "[Z" (.ref bu)) (A_bo : Av Z h0 bo (.array .boolean) [(.ref x0), (.ref x1), (.ref x2)]) (A_x1 : Av Z h0 x1 .boolean [(.int (1 : Int32)), (.int (1 : Int32)), (.int (1 : Int32)), (.int (1 : Int32)), (.int (1 : Int32))]) (A_bu : Av Z h0 bu .boolean [(.int u0), (.int u1), (.int u2)]) (g_x1 : n0 ≤ x1) (g_bu : n0 ≤ bu) (ne_a1_x1 : a1 ≠ x1) (ne_a1_bu : a1 ≠ bu) (ne_bo_x1 : bo ≠ x1) (ne_bo_bu : bo ≠ bu) (ne_x1_bu : x1 ≠ bu) :
    Con l Z (⟨"com/example/craterworks/craterworks/SharesStationBranchesPinLaw", "takeN", "(Lcom/example/craterworks/craterworks/SharesStation;II)V"⟩ : MethodName) method_2_code 3 none ({ frames := 1, cells := 0, slots := 0, locals := 14 } : Room) [] #[(.ref a1), (.int (1 : Int32)), (.int (0 : Int32))] h0 (fun v h L => ∃ zu0 : Int32, ∃ zu1 : Int32, ∃ zu2 : Int32, v = none ∧ Fr n0 L ∧ Keep h0 h [x1, bu] ∧ Av Z h x1 .boolean [(.int (1 : Int32)), (.int (1 : Int32)), (.int (1 : Int32)), (.int (1 : Int32)), (.int (1 : Int32))] ∧ Av Z h bu .boolean [(.int zu0), (.int zu1), (.int zu2)]) := by
  refine Con.of (plainFor_of_name pn_com_example_craterworks_craterworks_SharesStationBranchesPinLaw) #[.val (.ref a1), .val (.int (1 : Int32)), .val (.int (0 : Int32))] (fun m => ef7_1_0 m a1 (1 : Int32) (0 : Int32)) ?_
  intro p e s m below meth c s₁ K hx hby hml hown hnm hret hlk hZ X0 e0
  have N0 := Fr.nil n0
  refine m_iloadN K X0.here hx hby d_method_2_0 rfl rfl ?_
  refine m_ifY K X0.here hx hby (q := 9) d_method_2_1 ((if0 _ _).trans (flt (by decide : ¬ ((0 : Int32) < (0 : Int32)))).2.2.2) (by decide) rfl ?_
  refine m_iloadN K X0.here hx hby d_method_2_9 rfl rfl ?_
  refine m_iconst K X0.here hx hby (1 : Int32) d_method_2_10 rfl rfl ?_
  refine m_icmpY K X0.here hx hby (q := 19) d_method_2_11 (flt (by decide : ¬ ((1 : Int32) < (0 : Int32)))).2.2.2 (by decide) rfl ?_
  refine m_iloadN K X0.here hx hby d_method_2_19 rfl rfl ?_
  refine m_iconst K X0.here hx hby (2 : Int32) d_method_2_20 rfl rfl ?_
  refine m_icmpY K X0.here hx hby (q := 29) d_method_2_21 (flt (by decide : ¬ ((2 : Int32) < (0 : Int32)))).2.2.2 (by decide) rfl ?_
  refine m_iloadN K X0.here hx hby d_method_2_29 rfl rfl ?_
  refine m_iconst K X0.here hx hby (3 : Int32) d_method_2_30 rfl rfl ?_
  refine m_icmpY K X0.here hx hby (q := 39) d_method_2_31 (flt (by decide : ¬ ((3 : Int32) < (0 : Int32)))).2.2.2 (by decide) rfl ?_
  refine m_iloadN K X0.here hx hby d_method_2_39 rfl rfl ?_
  refine m_iconst K X0.here hx hby (4 : Int32) d_method_2_40 rfl rfl ?_
  refine m_icmpY K X0.here hx hby (q := 49) d_method_2_41 (flt (by decide : ¬ ((4 : Int32) < (0 : Int32)))).2.2.2 (by decide) rfl ?_
  exact Go.retV X0 hx hby hlk hret d_method_2_49 (by decide) (by decide) (by rw [e0]; exact ⟨u0, u1, u2, rfl, N0, (Keep.refl h0 [x1, bu]), A_x1, A_bu⟩)
theorem ef7_1_1 (m : MethodId) (x0 : Addr) (x1 : Int32) (x2 : Int32) : entryFrame m #[(.ref x0), (.int x1), (.int x2)] 3 = mkF m 0 #[.val (.ref x0), .val (.int x1), .val (.int x2)] [] := by first | (simp [entryFrame, mkF, argsToLocals, Value.category]; done) | rfl
set_option maxRecDepth 65536 in
set_option maxHeartbeats 40000000 in
theorem c7_1_1 (l : Launch) (Z : State) (a0 : Array Value) (hw : ∀ d ∈ tables_1, d.before a0 Z = true) (a1 : Addr) (bo : Addr) (bu : Addr) (x0 : Addr) (x1 : Addr) (x2 : Addr) (u0 : Int32) (u1 : Int32) (u2 : Int32) (h0 : Heap) (n0 : Nat) (Z0 : n0 ≤ h0.size) (E_a1 : Exa Z h0 a1 "com/example/craterworks/craterworks/SharesStation") (F_occupied_a1 : Fld Z h0 a1 "com/example/craterworks/craterworks/SharesStation" "occupied" "[[Z" (.ref bo)) (F_uncovered_a1 : Fld Z h0 a1 "com/example/craterworks/craterworks/SharesStation" "uncovered" "[Z" (.ref bu)) (A_bo : Av Z h0 bo (.array .boolean) [(.ref x0), (.ref x1), (.ref x2)]) (A_x1 : Av Z h0 x1 .boolean [(.int (1 : Int32)), (.int (1 : Int32)), (.int (1 : Int32)), (.int (1 : Int32)), (.int (1 : Int32))]) (A_bu : Av Z h0 bu .boolean [(.int u0), (.int u1), (.int u2)]) (g_x1 : n0 ≤ x1) (g_bu : n0 ≤ bu) (ne_a1_x1 : a1 ≠ x1) (ne_a1_bu : a1 ≠ bu) (ne_bo_x1 : bo ≠ x1) (ne_bo_bu : bo ≠ bu) (ne_x1_bu : x1 ≠ bu) :
    Con l Z (⟨"com/example/craterworks/craterworks/SharesStationBranchesPinLaw", "takeN", "(Lcom/example/craterworks/craterworks/SharesStation;II)V"⟩ : MethodName) method_2_code 3 none ({ frames := 1, cells := 0, slots := 0, locals := 14 } : Room) [] #[(.ref a1), (.int (1 : Int32)), (.int (1 : Int32))] h0 (fun v h L => ∃ zu0 : Int32, ∃ zu1 : Int32, ∃ zu2 : Int32, v = none ∧ Fr n0 L ∧ Keep h0 h [x1, bu] ∧ Av Z h x1 .boolean [(.int (0 : Int32)), (.int (1 : Int32)), (.int (1 : Int32)), (.int (1 : Int32)), (.int (1 : Int32))] ∧ Av Z h bu .boolean [(.int zu0), (.int zu1), (.int zu2)]) := by
  refine Con.of (plainFor_of_name pn_com_example_craterworks_craterworks_SharesStationBranchesPinLaw) #[.val (.ref a1), .val (.int (1 : Int32)), .val (.int (1 : Int32))] (fun m => ef7_1_1 m a1 (1 : Int32) (1 : Int32)) ?_
  intro p e s m below meth c s₁ K hx hby hml hown hnm hret hlk hZ X0 e0
  have N0 := Fr.nil n0
  refine m_iloadN K X0.here hx hby d_method_2_0 rfl rfl ?_
  refine m_ifN K X0.here hx hby (q := 4) d_method_2_1 ((if0 _ _).trans (tlt (by decide : (0 : Int32) < (1 : Int32))).2.2.2) rfl ?_
  refine m_aloadN K X0.here hx hby d_method_2_4 rfl rfl rfl ?_
  refine m_iloadN K X0.here hx hby d_method_2_5 rfl rfl ?_
  refine k_callV K X0 hx hby hZ a1 [(.int (1 : Int32))] [] hown (hw _ (List.mem_of_getElem? (i := 52) rfl)) (hw _ (List.mem_of_getElem? (i := 53) rfl)) (notFace_of_selects (args := #[]) (mvT hZ (hw _ (List.mem_of_getElem? (i := 55) rfl)))) (hw _ (List.mem_of_getElem? (i := 55) rfl)) (hw _ (List.mem_of_getElem? (i := 54) rfl)) (hw _ (List.mem_of_getElem? (i := 30) rfl)) (hw _ (List.mem_of_getElem? (i := 56) rfl)) (c8_1_0 l Z a0 hw a1 bo bu x0 x1 x2 u0 u1 u2 h0 n0 Z0 E_a1 F_occupied_a1 F_uncovered_a1 A_bo A_x1 A_bu g_x1 g_bu ne_a1_x1 ne_a1_bu ne_bo_x1 ne_bo_bu ne_x1_bu) e0 E_a1 rfl rfl pd_2 rfl d_method_2_6 (by rw [hml]; rfl) rfl (by decide) (by decide) (Nat.le_of_ble_eq_true rfl) (by decide) (by decide) fun v1 T1 L1 X1 q1 => ?_
  obtain ⟨zu0_1, zu1_1, zu2_1, rfl, Nq1, K1, Ap1_0, Ap1_1⟩ := q1
  have N1 := Fr.app N0 Nq1
  refine k_none K ?_
  refine m_iloadN K X1.here hx hby d_method_2_9 rfl rfl ?_
  refine m_iconst K X1.here hx hby (1 : Int32) d_method_2_10 rfl rfl ?_
  refine m_icmpY K X1.here hx hby (q := 19) d_method_2_11 (flt (by decide : ¬ ((1 : Int32) < (1 : Int32)))).2.2.2 (by decide) rfl ?_
  refine m_iloadN K X1.here hx hby d_method_2_19 rfl rfl ?_
  refine m_iconst K X1.here hx hby (2 : Int32) d_method_2_20 rfl rfl ?_
  refine m_icmpY K X1.here hx hby (q := 29) d_method_2_21 (flt (by decide : ¬ ((2 : Int32) < (1 : Int32)))).2.2.2 (by decide) rfl ?_
  refine m_iloadN K X1.here hx hby d_method_2_29 rfl rfl ?_
  refine m_iconst K X1.here hx hby (3 : Int32) d_method_2_30 rfl rfl ?_
  refine m_icmpY K X1.here hx hby (q := 39) d_method_2_31 (flt (by decide : ¬ ((3 : Int32) < (1 : Int32)))).2.2.2 (by decide) rfl ?_
  refine m_iloadN K X1.here hx hby d_method_2_39 rfl rfl ?_
  refine m_iconst K X1.here hx hby (4 : Int32) d_method_2_40 rfl rfl ?_
  refine m_icmpY K X1.here hx hby (q := 49) d_method_2_41 (flt (by decide : ¬ ((4 : Int32) < (1 : Int32)))).2.2.2 (by decide) rfl ?_
  exact Go.retV X1 hx hby hlk hret d_method_2_49 (by decide) (by decide) (⟨zu0_1, zu1_1, zu2_1, rfl, N1, ((Keep.refl h0 [x1, bu]).trans K1 (allS (Or.inl (by simp)) (allS (Or.inl (by simp)) all0))), Ap1_0, Ap1_1⟩)
theorem ef7_1_2 (m : MethodId) (x0 : Addr) (x1 : Int32) (x2 : Int32) : entryFrame m #[(.ref x0), (.int x1), (.int x2)] 3 = mkF m 0 #[.val (.ref x0), .val (.int x1), .val (.int x2)] [] := by first | (simp [entryFrame, mkF, argsToLocals, Value.category]; done) | rfl
set_option maxRecDepth 65536 in
set_option maxHeartbeats 40000000 in
theorem c7_1_2 (l : Launch) (Z : State) (a0 : Array Value) (hw : ∀ d ∈ tables_1, d.before a0 Z = true) (a1 : Addr) (bo : Addr) (bu : Addr) (x0 : Addr) (x1 : Addr) (x2 : Addr) (u0 : Int32) (u1 : Int32) (u2 : Int32) (h0 : Heap) (n0 : Nat) (Z0 : n0 ≤ h0.size) (E_a1 : Exa Z h0 a1 "com/example/craterworks/craterworks/SharesStation") (F_occupied_a1 : Fld Z h0 a1 "com/example/craterworks/craterworks/SharesStation" "occupied" "[[Z" (.ref bo)) (F_uncovered_a1 : Fld Z h0 a1 "com/example/craterworks/craterworks/SharesStation" "uncovered" "[Z" (.ref bu)) (A_bo : Av Z h0 bo (.array .boolean) [(.ref x0), (.ref x1), (.ref x2)]) (A_x1 : Av Z h0 x1 .boolean [(.int (1 : Int32)), (.int (1 : Int32)), (.int (1 : Int32)), (.int (1 : Int32)), (.int (1 : Int32))]) (A_bu : Av Z h0 bu .boolean [(.int u0), (.int u1), (.int u2)]) (g_x1 : n0 ≤ x1) (g_bu : n0 ≤ bu) (ne_a1_x1 : a1 ≠ x1) (ne_a1_bu : a1 ≠ bu) (ne_bo_x1 : bo ≠ x1) (ne_bo_bu : bo ≠ bu) (ne_x1_bu : x1 ≠ bu) :
    Con l Z (⟨"com/example/craterworks/craterworks/SharesStationBranchesPinLaw", "takeN", "(Lcom/example/craterworks/craterworks/SharesStation;II)V"⟩ : MethodName) method_2_code 3 none ({ frames := 1, cells := 0, slots := 0, locals := 14 } : Room) [] #[(.ref a1), (.int (1 : Int32)), (.int (2 : Int32))] h0 (fun v h L => ∃ zu0 : Int32, ∃ zu1 : Int32, ∃ zu2 : Int32, v = none ∧ Fr n0 L ∧ Keep h0 h [x1, bu] ∧ Av Z h x1 .boolean [(.int (0 : Int32)), (.int (0 : Int32)), (.int (1 : Int32)), (.int (1 : Int32)), (.int (1 : Int32))] ∧ Av Z h bu .boolean [(.int zu0), (.int zu1), (.int zu2)]) := by
  refine Con.of (plainFor_of_name pn_com_example_craterworks_craterworks_SharesStationBranchesPinLaw) #[.val (.ref a1), .val (.int (1 : Int32)), .val (.int (2 : Int32))] (fun m => ef7_1_2 m a1 (1 : Int32) (2 : Int32)) ?_
  intro p e s m below meth c s₁ K hx hby hml hown hnm hret hlk hZ X0 e0
  have N0 := Fr.nil n0
  refine m_iloadN K X0.here hx hby d_method_2_0 rfl rfl ?_
  refine m_ifN K X0.here hx hby (q := 4) d_method_2_1 ((if0 _ _).trans (tlt (by decide : (0 : Int32) < (2 : Int32))).2.2.2) rfl ?_
  refine m_aloadN K X0.here hx hby d_method_2_4 rfl rfl rfl ?_
  refine m_iloadN K X0.here hx hby d_method_2_5 rfl rfl ?_
  refine k_callV K X0 hx hby hZ a1 [(.int (1 : Int32))] [] hown (hw _ (List.mem_of_getElem? (i := 52) rfl)) (hw _ (List.mem_of_getElem? (i := 53) rfl)) (notFace_of_selects (args := #[]) (mvT hZ (hw _ (List.mem_of_getElem? (i := 55) rfl)))) (hw _ (List.mem_of_getElem? (i := 55) rfl)) (hw _ (List.mem_of_getElem? (i := 54) rfl)) (hw _ (List.mem_of_getElem? (i := 30) rfl)) (hw _ (List.mem_of_getElem? (i := 56) rfl)) (c8_1_0 l Z a0 hw a1 bo bu x0 x1 x2 u0 u1 u2 h0 n0 Z0 E_a1 F_occupied_a1 F_uncovered_a1 A_bo A_x1 A_bu g_x1 g_bu ne_a1_x1 ne_a1_bu ne_bo_x1 ne_bo_bu ne_x1_bu) e0 E_a1 rfl rfl pd_2 rfl d_method_2_6 (by rw [hml]; rfl) rfl (by decide) (by decide) (Nat.le_of_ble_eq_true rfl) (by decide) (by decide) fun v1 T1 L1 X1 q1 => ?_
  obtain ⟨zu0_1, zu1_1, zu2_1, rfl, Nq1, K1, Ap1_0, Ap1_1⟩ := q1
  have N1 := Fr.app N0 Nq1
  refine k_none K ?_
  refine m_iloadN K X1.here hx hby d_method_2_9 rfl rfl ?_
  refine m_iconst K X1.here hx hby (1 : Int32) d_method_2_10 rfl rfl ?_
  refine m_icmpN K X1.here hx hby (q := 14) d_method_2_11 (tlt (by decide : (1 : Int32) < (2 : Int32))).2.2.2 rfl ?_
  refine m_aloadN K X1.here hx hby d_method_2_14 rfl rfl rfl ?_
  refine m_iloadN K X1.here hx hby d_method_2_15 rfl rfl ?_
  refine k_callV K X1 hx hby hZ a1 [(.int (1 : Int32))] [] hown (hw _ (List.mem_of_getElem? (i := 52) rfl)) (hw _ (List.mem_of_getElem? (i := 53) rfl)) (notFace_of_selects (args := #[]) (mvT hZ (hw _ (List.mem_of_getElem? (i := 55) rfl)))) (hw _ (List.mem_of_getElem? (i := 55) rfl)) (hw _ (List.mem_of_getElem? (i := 54) rfl)) (hw _ (List.mem_of_getElem? (i := 30) rfl)) (hw _ (List.mem_of_getElem? (i := 56) rfl)) (c8_1_1 l Z a0 hw a1 bo bu x0 x1 x2 zu0_1 zu1_1 zu2_1 T1.heap n0 (Nat.le_trans Z0 (Nat.le_trans (Nat.le_refl _) K1.1)) (E_a1.keep K1) (F_occupied_a1.keep K1 (ninS ne_a1_x1 (ninS ne_a1_bu nin0))) (F_uncovered_a1.keep K1 (ninS ne_a1_x1 (ninS ne_a1_bu nin0))) (A_bo.keep K1 (ninS ne_bo_x1 (ninS ne_bo_bu nin0))) Ap1_0 Ap1_1 g_x1 g_bu ne_a1_x1 ne_a1_bu ne_bo_x1 ne_bo_bu ne_x1_bu) rfl (E_a1.keep K1) rfl rfl pd_2 rfl d_method_2_16 (by rw [hml]; rfl) rfl (by decide) (by decide) (Nat.le_of_ble_eq_true rfl) (by decide) (by decide) fun v2 T2 L2 X2 q2 => ?_
  obtain ⟨zu0_2, zu1_2, zu2_2, rfl, Nq2, K2, Ap2_0, Ap2_1⟩ := q2
  have N2 := Fr.app N1 Nq2
  refine k_none K ?_
  refine m_iloadN K X2.here hx hby d_method_2_19 rfl rfl ?_
  refine m_iconst K X2.here hx hby (2 : Int32) d_method_2_20 rfl rfl ?_
  refine m_icmpY K X2.here hx hby (q := 29) d_method_2_21 (flt (by decide : ¬ ((2 : Int32) < (2 : Int32)))).2.2.2 (by decide) rfl ?_
  refine m_iloadN K X2.here hx hby d_method_2_29 rfl rfl ?_
  refine m_iconst K X2.here hx hby (3 : Int32) d_method_2_30 rfl rfl ?_
  refine m_icmpY K X2.here hx hby (q := 39) d_method_2_31 (flt (by decide : ¬ ((3 : Int32) < (2 : Int32)))).2.2.2 (by decide) rfl ?_
  refine m_iloadN K X2.here hx hby d_method_2_39 rfl rfl ?_
  refine m_iconst K X2.here hx hby (4 : Int32) d_method_2_40 rfl rfl ?_
  refine m_icmpY K X2.here hx hby (q := 49) d_method_2_41 (flt (by decide : ¬ ((4 : Int32) < (2 : Int32)))).2.2.2 (by decide) rfl ?_
  exact Go.retV X2 hx hby hlk hret d_method_2_49 (by decide) (by decide) (⟨zu0_2, zu1_2, zu2_2, rfl, N2, (((Keep.refl h0 [x1, bu]).trans K1 (allS (Or.inl (by simp)) (allS (Or.inl (by simp)) all0))).trans K2 (allS (Or.inl (by simp)) (allS (Or.inl (by simp)) all0))), Ap2_0, Ap2_1⟩)
theorem ef7_1_3 (m : MethodId) (x0 : Addr) (x1 : Int32) (x2 : Int32) : entryFrame m #[(.ref x0), (.int x1), (.int x2)] 3 = mkF m 0 #[.val (.ref x0), .val (.int x1), .val (.int x2)] [] := by first | (simp [entryFrame, mkF, argsToLocals, Value.category]; done) | rfl
set_option maxRecDepth 65536 in
set_option maxHeartbeats 40000000 in
theorem c7_1_3 (l : Launch) (Z : State) (a0 : Array Value) (hw : ∀ d ∈ tables_1, d.before a0 Z = true) (a1 : Addr) (bo : Addr) (bu : Addr) (x0 : Addr) (x1 : Addr) (x2 : Addr) (u0 : Int32) (u1 : Int32) (u2 : Int32) (h0 : Heap) (n0 : Nat) (Z0 : n0 ≤ h0.size) (E_a1 : Exa Z h0 a1 "com/example/craterworks/craterworks/SharesStation") (F_occupied_a1 : Fld Z h0 a1 "com/example/craterworks/craterworks/SharesStation" "occupied" "[[Z" (.ref bo)) (F_uncovered_a1 : Fld Z h0 a1 "com/example/craterworks/craterworks/SharesStation" "uncovered" "[Z" (.ref bu)) (A_bo : Av Z h0 bo (.array .boolean) [(.ref x0), (.ref x1), (.ref x2)]) (A_x1 : Av Z h0 x1 .boolean [(.int (1 : Int32)), (.int (1 : Int32)), (.int (1 : Int32)), (.int (1 : Int32)), (.int (1 : Int32))]) (A_bu : Av Z h0 bu .boolean [(.int u0), (.int u1), (.int u2)]) (g_x1 : n0 ≤ x1) (g_bu : n0 ≤ bu) (ne_a1_x1 : a1 ≠ x1) (ne_a1_bu : a1 ≠ bu) (ne_bo_x1 : bo ≠ x1) (ne_bo_bu : bo ≠ bu) (ne_x1_bu : x1 ≠ bu) :
    Con l Z (⟨"com/example/craterworks/craterworks/SharesStationBranchesPinLaw", "takeN", "(Lcom/example/craterworks/craterworks/SharesStation;II)V"⟩ : MethodName) method_2_code 3 none ({ frames := 1, cells := 0, slots := 0, locals := 14 } : Room) [] #[(.ref a1), (.int (1 : Int32)), (.int (3 : Int32))] h0 (fun v h L => ∃ zu0 : Int32, ∃ zu1 : Int32, ∃ zu2 : Int32, v = none ∧ Fr n0 L ∧ Keep h0 h [x1, bu] ∧ Av Z h x1 .boolean [(.int (0 : Int32)), (.int (0 : Int32)), (.int (0 : Int32)), (.int (1 : Int32)), (.int (1 : Int32))] ∧ Av Z h bu .boolean [(.int zu0), (.int zu1), (.int zu2)]) := by
  refine Con.of (plainFor_of_name pn_com_example_craterworks_craterworks_SharesStationBranchesPinLaw) #[.val (.ref a1), .val (.int (1 : Int32)), .val (.int (3 : Int32))] (fun m => ef7_1_3 m a1 (1 : Int32) (3 : Int32)) ?_
  intro p e s m below meth c s₁ K hx hby hml hown hnm hret hlk hZ X0 e0
  have N0 := Fr.nil n0
  refine m_iloadN K X0.here hx hby d_method_2_0 rfl rfl ?_
  refine m_ifN K X0.here hx hby (q := 4) d_method_2_1 ((if0 _ _).trans (tlt (by decide : (0 : Int32) < (3 : Int32))).2.2.2) rfl ?_
  refine m_aloadN K X0.here hx hby d_method_2_4 rfl rfl rfl ?_
  refine m_iloadN K X0.here hx hby d_method_2_5 rfl rfl ?_
  refine k_callV K X0 hx hby hZ a1 [(.int (1 : Int32))] [] hown (hw _ (List.mem_of_getElem? (i := 52) rfl)) (hw _ (List.mem_of_getElem? (i := 53) rfl)) (notFace_of_selects (args := #[]) (mvT hZ (hw _ (List.mem_of_getElem? (i := 55) rfl)))) (hw _ (List.mem_of_getElem? (i := 55) rfl)) (hw _ (List.mem_of_getElem? (i := 54) rfl)) (hw _ (List.mem_of_getElem? (i := 30) rfl)) (hw _ (List.mem_of_getElem? (i := 56) rfl)) (c8_1_0 l Z a0 hw a1 bo bu x0 x1 x2 u0 u1 u2 h0 n0 Z0 E_a1 F_occupied_a1 F_uncovered_a1 A_bo A_x1 A_bu g_x1 g_bu ne_a1_x1 ne_a1_bu ne_bo_x1 ne_bo_bu ne_x1_bu) e0 E_a1 rfl rfl pd_2 rfl d_method_2_6 (by rw [hml]; rfl) rfl (by decide) (by decide) (Nat.le_of_ble_eq_true rfl) (by decide) (by decide) fun v1 T1 L1 X1 q1 => ?_
  obtain ⟨zu0_1, zu1_1, zu2_1, rfl, Nq1, K1, Ap1_0, Ap1_1⟩ := q1
  have N1 := Fr.app N0 Nq1
  refine k_none K ?_
  refine m_iloadN K X1.here hx hby d_method_2_9 rfl rfl ?_
  refine m_iconst K X1.here hx hby (1 : Int32) d_method_2_10 rfl rfl ?_
  refine m_icmpN K X1.here hx hby (q := 14) d_method_2_11 (tlt (by decide : (1 : Int32) < (3 : Int32))).2.2.2 rfl ?_
  refine m_aloadN K X1.here hx hby d_method_2_14 rfl rfl rfl ?_
  refine m_iloadN K X1.here hx hby d_method_2_15 rfl rfl ?_
  refine k_callV K X1 hx hby hZ a1 [(.int (1 : Int32))] [] hown (hw _ (List.mem_of_getElem? (i := 52) rfl)) (hw _ (List.mem_of_getElem? (i := 53) rfl)) (notFace_of_selects (args := #[]) (mvT hZ (hw _ (List.mem_of_getElem? (i := 55) rfl)))) (hw _ (List.mem_of_getElem? (i := 55) rfl)) (hw _ (List.mem_of_getElem? (i := 54) rfl)) (hw _ (List.mem_of_getElem? (i := 30) rfl)) (hw _ (List.mem_of_getElem? (i := 56) rfl)) (c8_1_1 l Z a0 hw a1 bo bu x0 x1 x2 zu0_1 zu1_1 zu2_1 T1.heap n0 (Nat.le_trans Z0 (Nat.le_trans (Nat.le_refl _) K1.1)) (E_a1.keep K1) (F_occupied_a1.keep K1 (ninS ne_a1_x1 (ninS ne_a1_bu nin0))) (F_uncovered_a1.keep K1 (ninS ne_a1_x1 (ninS ne_a1_bu nin0))) (A_bo.keep K1 (ninS ne_bo_x1 (ninS ne_bo_bu nin0))) Ap1_0 Ap1_1 g_x1 g_bu ne_a1_x1 ne_a1_bu ne_bo_x1 ne_bo_bu ne_x1_bu) rfl (E_a1.keep K1) rfl rfl pd_2 rfl d_method_2_16 (by rw [hml]; rfl) rfl (by decide) (by decide) (Nat.le_of_ble_eq_true rfl) (by decide) (by decide) fun v2 T2 L2 X2 q2 => ?_
  obtain ⟨zu0_2, zu1_2, zu2_2, rfl, Nq2, K2, Ap2_0, Ap2_1⟩ := q2
  have N2 := Fr.app N1 Nq2
  refine k_none K ?_
  refine m_iloadN K X2.here hx hby d_method_2_19 rfl rfl ?_
  refine m_iconst K X2.here hx hby (2 : Int32) d_method_2_20 rfl rfl ?_
  refine m_icmpN K X2.here hx hby (q := 24) d_method_2_21 (tlt (by decide : (2 : Int32) < (3 : Int32))).2.2.2 rfl ?_
  refine m_aloadN K X2.here hx hby d_method_2_24 rfl rfl rfl ?_
  refine m_iloadN K X2.here hx hby d_method_2_25 rfl rfl ?_
  refine k_callV K X2 hx hby hZ a1 [(.int (1 : Int32))] [] hown (hw _ (List.mem_of_getElem? (i := 52) rfl)) (hw _ (List.mem_of_getElem? (i := 53) rfl)) (notFace_of_selects (args := #[]) (mvT hZ (hw _ (List.mem_of_getElem? (i := 55) rfl)))) (hw _ (List.mem_of_getElem? (i := 55) rfl)) (hw _ (List.mem_of_getElem? (i := 54) rfl)) (hw _ (List.mem_of_getElem? (i := 30) rfl)) (hw _ (List.mem_of_getElem? (i := 56) rfl)) (c8_1_2 l Z a0 hw a1 bo bu x0 x1 x2 zu0_2 zu1_2 zu2_2 T2.heap n0 (Nat.le_trans Z0 (Nat.le_trans (Nat.le_trans (Nat.le_refl _) K1.1) K2.1)) ((E_a1.keep K1).keep K2) ((F_occupied_a1.keep K1 (ninS ne_a1_x1 (ninS ne_a1_bu nin0))).keep K2 (ninS ne_a1_x1 (ninS ne_a1_bu nin0))) ((F_uncovered_a1.keep K1 (ninS ne_a1_x1 (ninS ne_a1_bu nin0))).keep K2 (ninS ne_a1_x1 (ninS ne_a1_bu nin0))) ((A_bo.keep K1 (ninS ne_bo_x1 (ninS ne_bo_bu nin0))).keep K2 (ninS ne_bo_x1 (ninS ne_bo_bu nin0))) Ap2_0 Ap2_1 g_x1 g_bu ne_a1_x1 ne_a1_bu ne_bo_x1 ne_bo_bu ne_x1_bu) rfl ((E_a1.keep K1).keep K2) rfl rfl pd_2 rfl d_method_2_26 (by rw [hml]; rfl) rfl (by decide) (by decide) (Nat.le_of_ble_eq_true rfl) (by decide) (by decide) fun v3 T3 L3 X3 q3 => ?_
  obtain ⟨zu0_3, zu1_3, zu2_3, rfl, Nq3, K3, Ap3_0, Ap3_1⟩ := q3
  have N3 := Fr.app N2 Nq3
  refine k_none K ?_
  refine m_iloadN K X3.here hx hby d_method_2_29 rfl rfl ?_
  refine m_iconst K X3.here hx hby (3 : Int32) d_method_2_30 rfl rfl ?_
  refine m_icmpY K X3.here hx hby (q := 39) d_method_2_31 (flt (by decide : ¬ ((3 : Int32) < (3 : Int32)))).2.2.2 (by decide) rfl ?_
  refine m_iloadN K X3.here hx hby d_method_2_39 rfl rfl ?_
  refine m_iconst K X3.here hx hby (4 : Int32) d_method_2_40 rfl rfl ?_
  refine m_icmpY K X3.here hx hby (q := 49) d_method_2_41 (flt (by decide : ¬ ((4 : Int32) < (3 : Int32)))).2.2.2 (by decide) rfl ?_
  exact Go.retV X3 hx hby hlk hret d_method_2_49 (by decide) (by decide) (⟨zu0_3, zu1_3, zu2_3, rfl, N3, ((((Keep.refl h0 [x1, bu]).trans K1 (allS (Or.inl (by simp)) (allS (Or.inl (by simp)) all0))).trans K2 (allS (Or.inl (by simp)) (allS (Or.inl (by simp)) all0))).trans K3 (allS (Or.inl (by simp)) (allS (Or.inl (by simp)) all0))), Ap3_0, Ap3_1⟩)
theorem ef7_1_4 (m : MethodId) (x0 : Addr) (x1 : Int32) (x2 : Int32) : entryFrame m #[(.ref x0), (.int x1), (.int x2)] 3 = mkF m 0 #[.val (.ref x0), .val (.int x1), .val (.int x2)] [] := by first | (simp [entryFrame, mkF, argsToLocals, Value.category]; done) | rfl
set_option maxRecDepth 65536 in
set_option maxHeartbeats 40000000 in
theorem c7_1_4 (l : Launch) (Z : State) (a0 : Array Value) (hw : ∀ d ∈ tables_1, d.before a0 Z = true) (a1 : Addr) (bo : Addr) (bu : Addr) (x0 : Addr) (x1 : Addr) (x2 : Addr) (u0 : Int32) (u1 : Int32) (u2 : Int32) (h0 : Heap) (n0 : Nat) (Z0 : n0 ≤ h0.size) (E_a1 : Exa Z h0 a1 "com/example/craterworks/craterworks/SharesStation") (F_occupied_a1 : Fld Z h0 a1 "com/example/craterworks/craterworks/SharesStation" "occupied" "[[Z" (.ref bo)) (F_uncovered_a1 : Fld Z h0 a1 "com/example/craterworks/craterworks/SharesStation" "uncovered" "[Z" (.ref bu)) (A_bo : Av Z h0 bo (.array .boolean) [(.ref x0), (.ref x1), (.ref x2)]) (A_x1 : Av Z h0 x1 .boolean [(.int (1 : Int32)), (.int (1 : Int32)), (.int (1 : Int32)), (.int (1 : Int32)), (.int (1 : Int32))]) (A_bu : Av Z h0 bu .boolean [(.int u0), (.int u1), (.int u2)]) (g_x1 : n0 ≤ x1) (g_bu : n0 ≤ bu) (ne_a1_x1 : a1 ≠ x1) (ne_a1_bu : a1 ≠ bu) (ne_bo_x1 : bo ≠ x1) (ne_bo_bu : bo ≠ bu) (ne_x1_bu : x1 ≠ bu) :
    Con l Z (⟨"com/example/craterworks/craterworks/SharesStationBranchesPinLaw", "takeN", "(Lcom/example/craterworks/craterworks/SharesStation;II)V"⟩ : MethodName) method_2_code 3 none ({ frames := 1, cells := 0, slots := 0, locals := 14 } : Room) [] #[(.ref a1), (.int (1 : Int32)), (.int (4 : Int32))] h0 (fun v h L => ∃ zu0 : Int32, ∃ zu1 : Int32, ∃ zu2 : Int32, v = none ∧ Fr n0 L ∧ Keep h0 h [x1, bu] ∧ Av Z h x1 .boolean [(.int (0 : Int32)), (.int (0 : Int32)), (.int (0 : Int32)), (.int (0 : Int32)), (.int (1 : Int32))] ∧ Av Z h bu .boolean [(.int zu0), (.int zu1), (.int zu2)]) := by
  refine Con.of (plainFor_of_name pn_com_example_craterworks_craterworks_SharesStationBranchesPinLaw) #[.val (.ref a1), .val (.int (1 : Int32)), .val (.int (4 : Int32))] (fun m => ef7_1_4 m a1 (1 : Int32) (4 : Int32)) ?_
  intro p e s m below meth c s₁ K hx hby hml hown hnm hret hlk hZ X0 e0
  have N0 := Fr.nil n0
  refine m_iloadN K X0.here hx hby d_method_2_0 rfl rfl ?_
  refine m_ifN K X0.here hx hby (q := 4) d_method_2_1 ((if0 _ _).trans (tlt (by decide : (0 : Int32) < (4 : Int32))).2.2.2) rfl ?_
  refine m_aloadN K X0.here hx hby d_method_2_4 rfl rfl rfl ?_
  refine m_iloadN K X0.here hx hby d_method_2_5 rfl rfl ?_
  refine k_callV K X0 hx hby hZ a1 [(.int (1 : Int32))] [] hown (hw _ (List.mem_of_getElem? (i := 52) rfl)) (hw _ (List.mem_of_getElem? (i := 53) rfl)) (notFace_of_selects (args := #[]) (mvT hZ (hw _ (List.mem_of_getElem? (i := 55) rfl)))) (hw _ (List.mem_of_getElem? (i := 55) rfl)) (hw _ (List.mem_of_getElem? (i := 54) rfl)) (hw _ (List.mem_of_getElem? (i := 30) rfl)) (hw _ (List.mem_of_getElem? (i := 56) rfl)) (c8_1_0 l Z a0 hw a1 bo bu x0 x1 x2 u0 u1 u2 h0 n0 Z0 E_a1 F_occupied_a1 F_uncovered_a1 A_bo A_x1 A_bu g_x1 g_bu ne_a1_x1 ne_a1_bu ne_bo_x1 ne_bo_bu ne_x1_bu) e0 E_a1 rfl rfl pd_2 rfl d_method_2_6 (by rw [hml]; rfl) rfl (by decide) (by decide) (Nat.le_of_ble_eq_true rfl) (by decide) (by decide) fun v1 T1 L1 X1 q1 => ?_
  obtain ⟨zu0_1, zu1_1, zu2_1, rfl, Nq1, K1, Ap1_0, Ap1_1⟩ := q1
  have N1 := Fr.app N0 Nq1
  refine k_none K ?_
  refine m_iloadN K X1.here hx hby d_method_2_9 rfl rfl ?_
  refine m_iconst K X1.here hx hby (1 : Int32) d_method_2_10 rfl rfl ?_
  refine m_icmpN K X1.here hx hby (q := 14) d_method_2_11 (tlt (by decide : (1 : Int32) < (4 : Int32))).2.2.2 rfl ?_
  refine m_aloadN K X1.here hx hby d_method_2_14 rfl rfl rfl ?_
  refine m_iloadN K X1.here hx hby d_method_2_15 rfl rfl ?_
  refine k_callV K X1 hx hby hZ a1 [(.int (1 : Int32))] [] hown (hw _ (List.mem_of_getElem? (i := 52) rfl)) (hw _ (List.mem_of_getElem? (i := 53) rfl)) (notFace_of_selects (args := #[]) (mvT hZ (hw _ (List.mem_of_getElem? (i := 55) rfl)))) (hw _ (List.mem_of_getElem? (i := 55) rfl)) (hw _ (List.mem_of_getElem? (i := 54) rfl)) (hw _ (List.mem_of_getElem? (i := 30) rfl)) (hw _ (List.mem_of_getElem? (i := 56) rfl)) (c8_1_1 l Z a0 hw a1 bo bu x0 x1 x2 zu0_1 zu1_1 zu2_1 T1.heap n0 (Nat.le_trans Z0 (Nat.le_trans (Nat.le_refl _) K1.1)) (E_a1.keep K1) (F_occupied_a1.keep K1 (ninS ne_a1_x1 (ninS ne_a1_bu nin0))) (F_uncovered_a1.keep K1 (ninS ne_a1_x1 (ninS ne_a1_bu nin0))) (A_bo.keep K1 (ninS ne_bo_x1 (ninS ne_bo_bu nin0))) Ap1_0 Ap1_1 g_x1 g_bu ne_a1_x1 ne_a1_bu ne_bo_x1 ne_bo_bu ne_x1_bu) rfl (E_a1.keep K1) rfl rfl pd_2 rfl d_method_2_16 (by rw [hml]; rfl) rfl (by decide) (by decide) (Nat.le_of_ble_eq_true rfl) (by decide) (by decide) fun v2 T2 L2 X2 q2 => ?_
  obtain ⟨zu0_2, zu1_2, zu2_2, rfl, Nq2, K2, Ap2_0, Ap2_1⟩ := q2
  have N2 := Fr.app N1 Nq2
  refine k_none K ?_
  refine m_iloadN K X2.here hx hby d_method_2_19 rfl rfl ?_
  refine m_iconst K X2.here hx hby (2 : Int32) d_method_2_20 rfl rfl ?_
  refine m_icmpN K X2.here hx hby (q := 24) d_method_2_21 (tlt (by decide : (2 : Int32) < (4 : Int32))).2.2.2 rfl ?_
  refine m_aloadN K X2.here hx hby d_method_2_24 rfl rfl rfl ?_
  refine m_iloadN K X2.here hx hby d_method_2_25 rfl rfl ?_
  refine k_callV K X2 hx hby hZ a1 [(.int (1 : Int32))] [] hown (hw _ (List.mem_of_getElem? (i := 52) rfl)) (hw _ (List.mem_of_getElem? (i := 53) rfl)) (notFace_of_selects (args := #[]) (mvT hZ (hw _ (List.mem_of_getElem? (i := 55) rfl)))) (hw _ (List.mem_of_getElem? (i := 55) rfl)) (hw _ (List.mem_of_getElem? (i := 54) rfl)) (hw _ (List.mem_of_getElem? (i := 30) rfl)) (hw _ (List.mem_of_getElem? (i := 56) rfl)) (c8_1_2 l Z a0 hw a1 bo bu x0 x1 x2 zu0_2 zu1_2 zu2_2 T2.heap n0 (Nat.le_trans Z0 (Nat.le_trans (Nat.le_trans (Nat.le_refl _) K1.1) K2.1)) ((E_a1.keep K1).keep K2) ((F_occupied_a1.keep K1 (ninS ne_a1_x1 (ninS ne_a1_bu nin0))).keep K2 (ninS ne_a1_x1 (ninS ne_a1_bu nin0))) ((F_uncovered_a1.keep K1 (ninS ne_a1_x1 (ninS ne_a1_bu nin0))).keep K2 (ninS ne_a1_x1 (ninS ne_a1_bu nin0))) ((A_bo.keep K1 (ninS ne_bo_x1 (ninS ne_bo_bu nin0))).keep K2 (ninS ne_bo_x1 (ninS ne_bo_bu nin0))) Ap2_0 Ap2_1 g_x1 g_bu ne_a1_x1 ne_a1_bu ne_bo_x1 ne_bo_bu ne_x1_bu) rfl ((E_a1.keep K1).keep K2) rfl rfl pd_2 rfl d_method_2_26 (by rw [hml]; rfl) rfl (by decide) (by decide) (Nat.le_of_ble_eq_true rfl) (by decide) (by decide) fun v3 T3 L3 X3 q3 => ?_
  obtain ⟨zu0_3, zu1_3, zu2_3, rfl, Nq3, K3, Ap3_0, Ap3_1⟩ := q3
  have N3 := Fr.app N2 Nq3
  refine k_none K ?_
  refine m_iloadN K X3.here hx hby d_method_2_29 rfl rfl ?_
  refine m_iconst K X3.here hx hby (3 : Int32) d_method_2_30 rfl rfl ?_
  refine m_icmpN K X3.here hx hby (q := 34) d_method_2_31 (tlt (by decide : (3 : Int32) < (4 : Int32))).2.2.2 rfl ?_
  refine m_aloadN K X3.here hx hby d_method_2_34 rfl rfl rfl ?_
  refine m_iloadN K X3.here hx hby d_method_2_35 rfl rfl ?_
  refine k_callV K X3 hx hby hZ a1 [(.int (1 : Int32))] [] hown (hw _ (List.mem_of_getElem? (i := 52) rfl)) (hw _ (List.mem_of_getElem? (i := 53) rfl)) (notFace_of_selects (args := #[]) (mvT hZ (hw _ (List.mem_of_getElem? (i := 55) rfl)))) (hw _ (List.mem_of_getElem? (i := 55) rfl)) (hw _ (List.mem_of_getElem? (i := 54) rfl)) (hw _ (List.mem_of_getElem? (i := 30) rfl)) (hw _ (List.mem_of_getElem? (i := 56) rfl)) (c8_1_3 l Z a0 hw a1 bo bu x0 x1 x2 zu0_3 zu1_3 zu2_3 T3.heap n0 (Nat.le_trans Z0 (Nat.le_trans (Nat.le_trans (Nat.le_trans (Nat.le_refl _) K1.1) K2.1) K3.1)) (((E_a1.keep K1).keep K2).keep K3) (((F_occupied_a1.keep K1 (ninS ne_a1_x1 (ninS ne_a1_bu nin0))).keep K2 (ninS ne_a1_x1 (ninS ne_a1_bu nin0))).keep K3 (ninS ne_a1_x1 (ninS ne_a1_bu nin0))) (((F_uncovered_a1.keep K1 (ninS ne_a1_x1 (ninS ne_a1_bu nin0))).keep K2 (ninS ne_a1_x1 (ninS ne_a1_bu nin0))).keep K3 (ninS ne_a1_x1 (ninS ne_a1_bu nin0))) (((A_bo.keep K1 (ninS ne_bo_x1 (ninS ne_bo_bu nin0))).keep K2 (ninS ne_bo_x1 (ninS ne_bo_bu nin0))).keep K3 (ninS ne_bo_x1 (ninS ne_bo_bu nin0))) Ap3_0 Ap3_1 g_x1 g_bu ne_a1_x1 ne_a1_bu ne_bo_x1 ne_bo_bu ne_x1_bu) rfl (((E_a1.keep K1).keep K2).keep K3) rfl rfl pd_2 rfl d_method_2_36 (by rw [hml]; rfl) rfl (by decide) (by decide) (Nat.le_of_ble_eq_true rfl) (by decide) (by decide) fun v4 T4 L4 X4 q4 => ?_
  obtain ⟨zu0_4, zu1_4, zu2_4, rfl, Nq4, K4, Ap4_0, Ap4_1⟩ := q4
  have N4 := Fr.app N3 Nq4
  refine k_none K ?_
  refine m_iloadN K X4.here hx hby d_method_2_39 rfl rfl ?_
  refine m_iconst K X4.here hx hby (4 : Int32) d_method_2_40 rfl rfl ?_
  refine m_icmpY K X4.here hx hby (q := 49) d_method_2_41 (flt (by decide : ¬ ((4 : Int32) < (4 : Int32)))).2.2.2 (by decide) rfl ?_
  exact Go.retV X4 hx hby hlk hret d_method_2_49 (by decide) (by decide) (⟨zu0_4, zu1_4, zu2_4, rfl, N4, (((((Keep.refl h0 [x1, bu]).trans K1 (allS (Or.inl (by simp)) (allS (Or.inl (by simp)) all0))).trans K2 (allS (Or.inl (by simp)) (allS (Or.inl (by simp)) all0))).trans K3 (allS (Or.inl (by simp)) (allS (Or.inl (by simp)) all0))).trans K4 (allS (Or.inl (by simp)) (allS (Or.inl (by simp)) all0))), Ap4_0, Ap4_1⟩)
theorem ef7_1_5 (m : MethodId) (x0 : Addr) (x1 : Int32) (x2 : Int32) : entryFrame m #[(.ref x0), (.int x1), (.int x2)] 3 = mkF m 0 #[.val (.ref x0), .val (.int x1), .val (.int x2)] [] := by first | (simp [entryFrame, mkF, argsToLocals, Value.category]; done) | rfl
set_option maxRecDepth 65536 in
set_option maxHeartbeats 40000000 in
theorem c7_1_5 (l : Launch) (Z : State) (a0 : Array Value) (hw : ∀ d ∈ tables_1, d.before a0 Z = true) (a1 : Addr) (bo : Addr) (bu : Addr) (x0 : Addr) (x1 : Addr) (x2 : Addr) (u0 : Int32) (u1 : Int32) (u2 : Int32) (h0 : Heap) (n0 : Nat) (Z0 : n0 ≤ h0.size) (E_a1 : Exa Z h0 a1 "com/example/craterworks/craterworks/SharesStation") (F_occupied_a1 : Fld Z h0 a1 "com/example/craterworks/craterworks/SharesStation" "occupied" "[[Z" (.ref bo)) (F_uncovered_a1 : Fld Z h0 a1 "com/example/craterworks/craterworks/SharesStation" "uncovered" "[Z" (.ref bu)) (A_bo : Av Z h0 bo (.array .boolean) [(.ref x0), (.ref x1), (.ref x2)]) (A_x1 : Av Z h0 x1 .boolean [(.int (1 : Int32)), (.int (1 : Int32)), (.int (1 : Int32)), (.int (1 : Int32)), (.int (1 : Int32))]) (A_bu : Av Z h0 bu .boolean [(.int u0), (.int u1), (.int u2)]) (g_x1 : n0 ≤ x1) (g_bu : n0 ≤ bu) (ne_a1_x1 : a1 ≠ x1) (ne_a1_bu : a1 ≠ bu) (ne_bo_x1 : bo ≠ x1) (ne_bo_bu : bo ≠ bu) (ne_x1_bu : x1 ≠ bu) :
    Con l Z (⟨"com/example/craterworks/craterworks/SharesStationBranchesPinLaw", "takeN", "(Lcom/example/craterworks/craterworks/SharesStation;II)V"⟩ : MethodName) method_2_code 3 none ({ frames := 1, cells := 0, slots := 0, locals := 14 } : Room) [] #[(.ref a1), (.int (1 : Int32)), (.int (5 : Int32))] h0 (fun v h L => ∃ zu0 : Int32, ∃ zu1 : Int32, ∃ zu2 : Int32, v = none ∧ Fr n0 L ∧ Keep h0 h [x1, bu] ∧ Av Z h x1 .boolean [(.int (0 : Int32)), (.int (0 : Int32)), (.int (0 : Int32)), (.int (0 : Int32)), (.int (0 : Int32))] ∧ Av Z h bu .boolean [(.int zu0), (.int zu1), (.int zu2)]) := by
  refine Con.of (plainFor_of_name pn_com_example_craterworks_craterworks_SharesStationBranchesPinLaw) #[.val (.ref a1), .val (.int (1 : Int32)), .val (.int (5 : Int32))] (fun m => ef7_1_5 m a1 (1 : Int32) (5 : Int32)) ?_
  intro p e s m below meth c s₁ K hx hby hml hown hnm hret hlk hZ X0 e0
  have N0 := Fr.nil n0
  refine m_iloadN K X0.here hx hby d_method_2_0 rfl rfl ?_
  refine m_ifN K X0.here hx hby (q := 4) d_method_2_1 ((if0 _ _).trans (tlt (by decide : (0 : Int32) < (5 : Int32))).2.2.2) rfl ?_
  refine m_aloadN K X0.here hx hby d_method_2_4 rfl rfl rfl ?_
  refine m_iloadN K X0.here hx hby d_method_2_5 rfl rfl ?_
  refine k_callV K X0 hx hby hZ a1 [(.int (1 : Int32))] [] hown (hw _ (List.mem_of_getElem? (i := 52) rfl)) (hw _ (List.mem_of_getElem? (i := 53) rfl)) (notFace_of_selects (args := #[]) (mvT hZ (hw _ (List.mem_of_getElem? (i := 55) rfl)))) (hw _ (List.mem_of_getElem? (i := 55) rfl)) (hw _ (List.mem_of_getElem? (i := 54) rfl)) (hw _ (List.mem_of_getElem? (i := 30) rfl)) (hw _ (List.mem_of_getElem? (i := 56) rfl)) (c8_1_0 l Z a0 hw a1 bo bu x0 x1 x2 u0 u1 u2 h0 n0 Z0 E_a1 F_occupied_a1 F_uncovered_a1 A_bo A_x1 A_bu g_x1 g_bu ne_a1_x1 ne_a1_bu ne_bo_x1 ne_bo_bu ne_x1_bu) e0 E_a1 rfl rfl pd_2 rfl d_method_2_6 (by rw [hml]; rfl) rfl (by decide) (by decide) (Nat.le_of_ble_eq_true rfl) (by decide) (by decide) fun v1 T1 L1 X1 q1 => ?_
  obtain ⟨zu0_1, zu1_1, zu2_1, rfl, Nq1, K1, Ap1_0, Ap1_1⟩ := q1
  have N1 := Fr.app N0 Nq1
  refine k_none K ?_
  refine m_iloadN K X1.here hx hby d_method_2_9 rfl rfl ?_
  refine m_iconst K X1.here hx hby (1 : Int32) d_method_2_10 rfl rfl ?_
  refine m_icmpN K X1.here hx hby (q := 14) d_method_2_11 (tlt (by decide : (1 : Int32) < (5 : Int32))).2.2.2 rfl ?_
  refine m_aloadN K X1.here hx hby d_method_2_14 rfl rfl rfl ?_
  refine m_iloadN K X1.here hx hby d_method_2_15 rfl rfl ?_
  refine k_callV K X1 hx hby hZ a1 [(.int (1 : Int32))] [] hown (hw _ (List.mem_of_getElem? (i := 52) rfl)) (hw _ (List.mem_of_getElem? (i := 53) rfl)) (notFace_of_selects (args := #[]) (mvT hZ (hw _ (List.mem_of_getElem? (i := 55) rfl)))) (hw _ (List.mem_of_getElem? (i := 55) rfl)) (hw _ (List.mem_of_getElem? (i := 54) rfl)) (hw _ (List.mem_of_getElem? (i := 30) rfl)) (hw _ (List.mem_of_getElem? (i := 56) rfl)) (c8_1_1 l Z a0 hw a1 bo bu x0 x1 x2 zu0_1 zu1_1 zu2_1 T1.heap n0 (Nat.le_trans Z0 (Nat.le_trans (Nat.le_refl _) K1.1)) (E_a1.keep K1) (F_occupied_a1.keep K1 (ninS ne_a1_x1 (ninS ne_a1_bu nin0))) (F_uncovered_a1.keep K1 (ninS ne_a1_x1 (ninS ne_a1_bu nin0))) (A_bo.keep K1 (ninS ne_bo_x1 (ninS ne_bo_bu nin0))) Ap1_0 Ap1_1 g_x1 g_bu ne_a1_x1 ne_a1_bu ne_bo_x1 ne_bo_bu ne_x1_bu) rfl (E_a1.keep K1) rfl rfl pd_2 rfl d_method_2_16 (by rw [hml]; rfl) rfl (by decide) (by decide) (Nat.le_of_ble_eq_true rfl) (by decide) (by decide) fun v2 T2 L2 X2 q2 => ?_
  obtain ⟨zu0_2, zu1_2, zu2_2, rfl, Nq2, K2, Ap2_0, Ap2_1⟩ := q2
  have N2 := Fr.app N1 Nq2
  refine k_none K ?_
  refine m_iloadN K X2.here hx hby d_method_2_19 rfl rfl ?_
  refine m_iconst K X2.here hx hby (2 : Int32) d_method_2_20 rfl rfl ?_
  refine m_icmpN K X2.here hx hby (q := 24) d_method_2_21 (tlt (by decide : (2 : Int32) < (5 : Int32))).2.2.2 rfl ?_
  refine m_aloadN K X2.here hx hby d_method_2_24 rfl rfl rfl ?_
  refine m_iloadN K X2.here hx hby d_method_2_25 rfl rfl ?_
  refine k_callV K X2 hx hby hZ a1 [(.int (1 : Int32))] [] hown (hw _ (List.mem_of_getElem? (i := 52) rfl)) (hw _ (List.mem_of_getElem? (i := 53) rfl)) (notFace_of_selects (args := #[]) (mvT hZ (hw _ (List.mem_of_getElem? (i := 55) rfl)))) (hw _ (List.mem_of_getElem? (i := 55) rfl)) (hw _ (List.mem_of_getElem? (i := 54) rfl)) (hw _ (List.mem_of_getElem? (i := 30) rfl)) (hw _ (List.mem_of_getElem? (i := 56) rfl)) (c8_1_2 l Z a0 hw a1 bo bu x0 x1 x2 zu0_2 zu1_2 zu2_2 T2.heap n0 (Nat.le_trans Z0 (Nat.le_trans (Nat.le_trans (Nat.le_refl _) K1.1) K2.1)) ((E_a1.keep K1).keep K2) ((F_occupied_a1.keep K1 (ninS ne_a1_x1 (ninS ne_a1_bu nin0))).keep K2 (ninS ne_a1_x1 (ninS ne_a1_bu nin0))) ((F_uncovered_a1.keep K1 (ninS ne_a1_x1 (ninS ne_a1_bu nin0))).keep K2 (ninS ne_a1_x1 (ninS ne_a1_bu nin0))) ((A_bo.keep K1 (ninS ne_bo_x1 (ninS ne_bo_bu nin0))).keep K2 (ninS ne_bo_x1 (ninS ne_bo_bu nin0))) Ap2_0 Ap2_1 g_x1 g_bu ne_a1_x1 ne_a1_bu ne_bo_x1 ne_bo_bu ne_x1_bu) rfl ((E_a1.keep K1).keep K2) rfl rfl pd_2 rfl d_method_2_26 (by rw [hml]; rfl) rfl (by decide) (by decide) (Nat.le_of_ble_eq_true rfl) (by decide) (by decide) fun v3 T3 L3 X3 q3 => ?_
  obtain ⟨zu0_3, zu1_3, zu2_3, rfl, Nq3, K3, Ap3_0, Ap3_1⟩ := q3
  have N3 := Fr.app N2 Nq3
  refine k_none K ?_
  refine m_iloadN K X3.here hx hby d_method_2_29 rfl rfl ?_
  refine m_iconst K X3.here hx hby (3 : Int32) d_method_2_30 rfl rfl ?_
  refine m_icmpN K X3.here hx hby (q := 34) d_method_2_31 (tlt (by decide : (3 : Int32) < (5 : Int32))).2.2.2 rfl ?_
  refine m_aloadN K X3.here hx hby d_method_2_34 rfl rfl rfl ?_
  refine m_iloadN K X3.here hx hby d_method_2_35 rfl rfl ?_
  refine k_callV K X3 hx hby hZ a1 [(.int (1 : Int32))] [] hown (hw _ (List.mem_of_getElem? (i := 52) rfl)) (hw _ (List.mem_of_getElem? (i := 53) rfl)) (notFace_of_selects (args := #[]) (mvT hZ (hw _ (List.mem_of_getElem? (i := 55) rfl)))) (hw _ (List.mem_of_getElem? (i := 55) rfl)) (hw _ (List.mem_of_getElem? (i := 54) rfl)) (hw _ (List.mem_of_getElem? (i := 30) rfl)) (hw _ (List.mem_of_getElem? (i := 56) rfl)) (c8_1_3 l Z a0 hw a1 bo bu x0 x1 x2 zu0_3 zu1_3 zu2_3 T3.heap n0 (Nat.le_trans Z0 (Nat.le_trans (Nat.le_trans (Nat.le_trans (Nat.le_refl _) K1.1) K2.1) K3.1)) (((E_a1.keep K1).keep K2).keep K3) (((F_occupied_a1.keep K1 (ninS ne_a1_x1 (ninS ne_a1_bu nin0))).keep K2 (ninS ne_a1_x1 (ninS ne_a1_bu nin0))).keep K3 (ninS ne_a1_x1 (ninS ne_a1_bu nin0))) (((F_uncovered_a1.keep K1 (ninS ne_a1_x1 (ninS ne_a1_bu nin0))).keep K2 (ninS ne_a1_x1 (ninS ne_a1_bu nin0))).keep K3 (ninS ne_a1_x1 (ninS ne_a1_bu nin0))) (((A_bo.keep K1 (ninS ne_bo_x1 (ninS ne_bo_bu nin0))).keep K2 (ninS ne_bo_x1 (ninS ne_bo_bu nin0))).keep K3 (ninS ne_bo_x1 (ninS ne_bo_bu nin0))) Ap3_0 Ap3_1 g_x1 g_bu ne_a1_x1 ne_a1_bu ne_bo_x1 ne_bo_bu ne_x1_bu) rfl (((E_a1.keep K1).keep K2).keep K3) rfl rfl pd_2 rfl d_method_2_36 (by rw [hml]; rfl) rfl (by decide) (by decide) (Nat.le_of_ble_eq_true rfl) (by decide) (by decide) fun v4 T4 L4 X4 q4 => ?_
  obtain ⟨zu0_4, zu1_4, zu2_4, rfl, Nq4, K4, Ap4_0, Ap4_1⟩ := q4
  have N4 := Fr.app N3 Nq4
  refine k_none K ?_
  refine m_iloadN K X4.here hx hby d_method_2_39 rfl rfl ?_
  refine m_iconst K X4.here hx hby (4 : Int32) d_method_2_40 rfl rfl ?_
  refine m_icmpN K X4.here hx hby (q := 44) d_method_2_41 (tlt (by decide : (4 : Int32) < (5 : Int32))).2.2.2 rfl ?_
  refine m_aloadN K X4.here hx hby d_method_2_44 rfl rfl rfl ?_
  refine m_iloadN K X4.here hx hby d_method_2_45 rfl rfl ?_
  refine k_callV K X4 hx hby hZ a1 [(.int (1 : Int32))] [] hown (hw _ (List.mem_of_getElem? (i := 52) rfl)) (hw _ (List.mem_of_getElem? (i := 53) rfl)) (notFace_of_selects (args := #[]) (mvT hZ (hw _ (List.mem_of_getElem? (i := 55) rfl)))) (hw _ (List.mem_of_getElem? (i := 55) rfl)) (hw _ (List.mem_of_getElem? (i := 54) rfl)) (hw _ (List.mem_of_getElem? (i := 30) rfl)) (hw _ (List.mem_of_getElem? (i := 56) rfl)) (c8_1_4 l Z a0 hw a1 bo bu x0 x1 x2 zu0_4 zu1_4 zu2_4 T4.heap n0 (Nat.le_trans Z0 (Nat.le_trans (Nat.le_trans (Nat.le_trans (Nat.le_trans (Nat.le_refl _) K1.1) K2.1) K3.1) K4.1)) ((((E_a1.keep K1).keep K2).keep K3).keep K4) ((((F_occupied_a1.keep K1 (ninS ne_a1_x1 (ninS ne_a1_bu nin0))).keep K2 (ninS ne_a1_x1 (ninS ne_a1_bu nin0))).keep K3 (ninS ne_a1_x1 (ninS ne_a1_bu nin0))).keep K4 (ninS ne_a1_x1 (ninS ne_a1_bu nin0))) ((((F_uncovered_a1.keep K1 (ninS ne_a1_x1 (ninS ne_a1_bu nin0))).keep K2 (ninS ne_a1_x1 (ninS ne_a1_bu nin0))).keep K3 (ninS ne_a1_x1 (ninS ne_a1_bu nin0))).keep K4 (ninS ne_a1_x1 (ninS ne_a1_bu nin0))) ((((A_bo.keep K1 (ninS ne_bo_x1 (ninS ne_bo_bu nin0))).keep K2 (ninS ne_bo_x1 (ninS ne_bo_bu nin0))).keep K3 (ninS ne_bo_x1 (ninS ne_bo_bu nin0))).keep K4 (ninS ne_bo_x1 (ninS ne_bo_bu nin0))) Ap4_0 Ap4_1 g_x1 g_bu ne_a1_x1 ne_a1_bu ne_bo_x1 ne_bo_bu ne_x1_bu) rfl ((((E_a1.keep K1).keep K2).keep K3).keep K4) rfl rfl pd_2 rfl d_method_2_46 (by rw [hml]; rfl) rfl (by decide) (by decide) (Nat.le_of_ble_eq_true rfl) (by decide) (by decide) fun v5 T5 L5 X5 q5 => ?_
  obtain ⟨zu0_5, zu1_5, zu2_5, rfl, Nq5, K5, Ap5_0, Ap5_1⟩ := q5
  have N5 := Fr.app N4 Nq5
  refine k_none K ?_
  exact Go.retV X5 hx hby hlk hret d_method_2_49 (by decide) (by decide) (⟨zu0_5, zu1_5, zu2_5, rfl, N5, ((((((Keep.refl h0 [x1, bu]).trans K1 (allS (Or.inl (by simp)) (allS (Or.inl (by simp)) all0))).trans K2 (allS (Or.inl (by simp)) (allS (Or.inl (by simp)) all0))).trans K3 (allS (Or.inl (by simp)) (allS (Or.inl (by simp)) all0))).trans K4 (allS (Or.inl (by simp)) (allS (Or.inl (by simp)) all0))).trans K5 (allS (Or.inl (by simp)) (allS (Or.inl (by simp)) all0))), Ap5_0, Ap5_1⟩)
theorem ef7_2_0 (m : MethodId) (x0 : Addr) (x1 : Int32) (x2 : Int32) : entryFrame m #[(.ref x0), (.int x1), (.int x2)] 3 = mkF m 0 #[.val (.ref x0), .val (.int x1), .val (.int x2)] [] := by first | (simp [entryFrame, mkF, argsToLocals, Value.category]; done) | rfl
set_option maxRecDepth 65536 in
set_option maxHeartbeats 40000000 in
theorem c7_2_0 (l : Launch) (Z : State) (a0 : Array Value) (hw : ∀ d ∈ tables_1, d.before a0 Z = true) (a1 : Addr) (bo : Addr) (bu : Addr) (x0 : Addr) (x1 : Addr) (x2 : Addr) (u0 : Int32) (u1 : Int32) (u2 : Int32) (h0 : Heap) (n0 : Nat) (Z0 : n0 ≤ h0.size) (E_a1 : Exa Z h0 a1 "com/example/craterworks/craterworks/SharesStation") (F_occupied_a1 : Fld Z h0 a1 "com/example/craterworks/craterworks/SharesStation" "occupied" "[[Z" (.ref bo)) (F_uncovered_a1 : Fld Z h0 a1 "com/example/craterworks/craterworks/SharesStation" "uncovered" "[Z" (.ref bu)) (A_bo : Av Z h0 bo (.array .boolean) [(.ref x0), (.ref x1), (.ref x2)]) (A_x2 : Av Z h0 x2 .boolean [(.int (1 : Int32)), (.int (1 : Int32)), (.int (1 : Int32)), (.int (1 : Int32)), (.int (1 : Int32))]) (A_bu : Av Z h0 bu .boolean [(.int u0), (.int u1), (.int u2)]) (g_x2 : n0 ≤ x2) (g_bu : n0 ≤ bu) (ne_a1_x2 : a1 ≠ x2) (ne_a1_bu : a1 ≠ bu) (ne_bo_x2 : bo ≠ x2) (ne_bo_bu : bo ≠ bu) (ne_x2_bu : x2 ≠ bu) :
    Con l Z (⟨"com/example/craterworks/craterworks/SharesStationBranchesPinLaw", "takeN", "(Lcom/example/craterworks/craterworks/SharesStation;II)V"⟩ : MethodName) method_2_code 3 none ({ frames := 1, cells := 0, slots := 0, locals := 14 } : Room) [] #[(.ref a1), (.int (2 : Int32)), (.int (0 : Int32))] h0 (fun v h L => ∃ zu0 : Int32, ∃ zu1 : Int32, ∃ zu2 : Int32, v = none ∧ Fr n0 L ∧ Keep h0 h [x2, bu] ∧ Av Z h x2 .boolean [(.int (1 : Int32)), (.int (1 : Int32)), (.int (1 : Int32)), (.int (1 : Int32)), (.int (1 : Int32))] ∧ Av Z h bu .boolean [(.int zu0), (.int zu1), (.int zu2)]) := by
  refine Con.of (plainFor_of_name pn_com_example_craterworks_craterworks_SharesStationBranchesPinLaw) #[.val (.ref a1), .val (.int (2 : Int32)), .val (.int (0 : Int32))] (fun m => ef7_2_0 m a1 (2 : Int32) (0 : Int32)) ?_
  intro p e s m below meth c s₁ K hx hby hml hown hnm hret hlk hZ X0 e0
  have N0 := Fr.nil n0
  refine m_iloadN K X0.here hx hby d_method_2_0 rfl rfl ?_
  refine m_ifY K X0.here hx hby (q := 9) d_method_2_1 ((if0 _ _).trans (flt (by decide : ¬ ((0 : Int32) < (0 : Int32)))).2.2.2) (by decide) rfl ?_
  refine m_iloadN K X0.here hx hby d_method_2_9 rfl rfl ?_
  refine m_iconst K X0.here hx hby (1 : Int32) d_method_2_10 rfl rfl ?_
  refine m_icmpY K X0.here hx hby (q := 19) d_method_2_11 (flt (by decide : ¬ ((1 : Int32) < (0 : Int32)))).2.2.2 (by decide) rfl ?_
  refine m_iloadN K X0.here hx hby d_method_2_19 rfl rfl ?_
  refine m_iconst K X0.here hx hby (2 : Int32) d_method_2_20 rfl rfl ?_
  refine m_icmpY K X0.here hx hby (q := 29) d_method_2_21 (flt (by decide : ¬ ((2 : Int32) < (0 : Int32)))).2.2.2 (by decide) rfl ?_
  refine m_iloadN K X0.here hx hby d_method_2_29 rfl rfl ?_
  refine m_iconst K X0.here hx hby (3 : Int32) d_method_2_30 rfl rfl ?_
  refine m_icmpY K X0.here hx hby (q := 39) d_method_2_31 (flt (by decide : ¬ ((3 : Int32) < (0 : Int32)))).2.2.2 (by decide) rfl ?_
  refine m_iloadN K X0.here hx hby d_method_2_39 rfl rfl ?_
  refine m_iconst K X0.here hx hby (4 : Int32) d_method_2_40 rfl rfl ?_
  refine m_icmpY K X0.here hx hby (q := 49) d_method_2_41 (flt (by decide : ¬ ((4 : Int32) < (0 : Int32)))).2.2.2 (by decide) rfl ?_
  exact Go.retV X0 hx hby hlk hret d_method_2_49 (by decide) (by decide) (by rw [e0]; exact ⟨u0, u1, u2, rfl, N0, (Keep.refl h0 [x2, bu]), A_x2, A_bu⟩)
theorem ef7_2_1 (m : MethodId) (x0 : Addr) (x1 : Int32) (x2 : Int32) : entryFrame m #[(.ref x0), (.int x1), (.int x2)] 3 = mkF m 0 #[.val (.ref x0), .val (.int x1), .val (.int x2)] [] := by first | (simp [entryFrame, mkF, argsToLocals, Value.category]; done) | rfl
set_option maxRecDepth 65536 in
set_option maxHeartbeats 40000000 in
theorem c7_2_1 (l : Launch) (Z : State) (a0 : Array Value) (hw : ∀ d ∈ tables_1, d.before a0 Z = true) (a1 : Addr) (bo : Addr) (bu : Addr) (x0 : Addr) (x1 : Addr) (x2 : Addr) (u0 : Int32) (u1 : Int32) (u2 : Int32) (h0 : Heap) (n0 : Nat) (Z0 : n0 ≤ h0.size) (E_a1 : Exa Z h0 a1 "com/example/craterworks/craterworks/SharesStation") (F_occupied_a1 : Fld Z h0 a1 "com/example/craterworks/craterworks/SharesStation" "occupied" "[[Z" (.ref bo)) (F_uncovered_a1 : Fld Z h0 a1 "com/example/craterworks/craterworks/SharesStation" "uncovered" "[Z" (.ref bu)) (A_bo : Av Z h0 bo (.array .boolean) [(.ref x0), (.ref x1), (.ref x2)]) (A_x2 : Av Z h0 x2 .boolean [(.int (1 : Int32)), (.int (1 : Int32)), (.int (1 : Int32)), (.int (1 : Int32)), (.int (1 : Int32))]) (A_bu : Av Z h0 bu .boolean [(.int u0), (.int u1), (.int u2)]) (g_x2 : n0 ≤ x2) (g_bu : n0 ≤ bu) (ne_a1_x2 : a1 ≠ x2) (ne_a1_bu : a1 ≠ bu) (ne_bo_x2 : bo ≠ x2) (ne_bo_bu : bo ≠ bu) (ne_x2_bu : x2 ≠ bu) :
    Con l Z (⟨"com/example/craterworks/craterworks/SharesStationBranchesPinLaw", "takeN", "(Lcom/example/craterworks/craterworks/SharesStation;II)V"⟩ : MethodName) method_2_code 3 none ({ frames := 1, cells := 0, slots := 0, locals := 14 } : Room) [] #[(.ref a1), (.int (2 : Int32)), (.int (1 : Int32))] h0 (fun v h L => ∃ zu0 : Int32, ∃ zu1 : Int32, ∃ zu2 : Int32, v = none ∧ Fr n0 L ∧ Keep h0 h [x2, bu] ∧ Av Z h x2 .boolean [(.int (0 : Int32)), (.int (1 : Int32)), (.int (1 : Int32)), (.int (1 : Int32)), (.int (1 : Int32))] ∧ Av Z h bu .boolean [(.int zu0), (.int zu1), (.int zu2)]) := by
  refine Con.of (plainFor_of_name pn_com_example_craterworks_craterworks_SharesStationBranchesPinLaw) #[.val (.ref a1), .val (.int (2 : Int32)), .val (.int (1 : Int32))] (fun m => ef7_2_1 m a1 (2 : Int32) (1 : Int32)) ?_
  intro p e s m below meth c s₁ K hx hby hml hown hnm hret hlk hZ X0 e0
  have N0 := Fr.nil n0
  refine m_iloadN K X0.here hx hby d_method_2_0 rfl rfl ?_
  refine m_ifN K X0.here hx hby (q := 4) d_method_2_1 ((if0 _ _).trans (tlt (by decide : (0 : Int32) < (1 : Int32))).2.2.2) rfl ?_
  refine m_aloadN K X0.here hx hby d_method_2_4 rfl rfl rfl ?_
  refine m_iloadN K X0.here hx hby d_method_2_5 rfl rfl ?_
  refine k_callV K X0 hx hby hZ a1 [(.int (2 : Int32))] [] hown (hw _ (List.mem_of_getElem? (i := 52) rfl)) (hw _ (List.mem_of_getElem? (i := 53) rfl)) (notFace_of_selects (args := #[]) (mvT hZ (hw _ (List.mem_of_getElem? (i := 55) rfl)))) (hw _ (List.mem_of_getElem? (i := 55) rfl)) (hw _ (List.mem_of_getElem? (i := 54) rfl)) (hw _ (List.mem_of_getElem? (i := 30) rfl)) (hw _ (List.mem_of_getElem? (i := 56) rfl)) (c8_2_0 l Z a0 hw a1 bo bu x0 x1 x2 u0 u1 u2 h0 n0 Z0 E_a1 F_occupied_a1 F_uncovered_a1 A_bo A_x2 A_bu g_x2 g_bu ne_a1_x2 ne_a1_bu ne_bo_x2 ne_bo_bu ne_x2_bu) e0 E_a1 rfl rfl pd_2 rfl d_method_2_6 (by rw [hml]; rfl) rfl (by decide) (by decide) (Nat.le_of_ble_eq_true rfl) (by decide) (by decide) fun v1 T1 L1 X1 q1 => ?_
  obtain ⟨zu0_1, zu1_1, zu2_1, rfl, Nq1, K1, Ap1_0, Ap1_1⟩ := q1
  have N1 := Fr.app N0 Nq1
  refine k_none K ?_
  refine m_iloadN K X1.here hx hby d_method_2_9 rfl rfl ?_
  refine m_iconst K X1.here hx hby (1 : Int32) d_method_2_10 rfl rfl ?_
  refine m_icmpY K X1.here hx hby (q := 19) d_method_2_11 (flt (by decide : ¬ ((1 : Int32) < (1 : Int32)))).2.2.2 (by decide) rfl ?_
  refine m_iloadN K X1.here hx hby d_method_2_19 rfl rfl ?_
  refine m_iconst K X1.here hx hby (2 : Int32) d_method_2_20 rfl rfl ?_
  refine m_icmpY K X1.here hx hby (q := 29) d_method_2_21 (flt (by decide : ¬ ((2 : Int32) < (1 : Int32)))).2.2.2 (by decide) rfl ?_
  refine m_iloadN K X1.here hx hby d_method_2_29 rfl rfl ?_
  refine m_iconst K X1.here hx hby (3 : Int32) d_method_2_30 rfl rfl ?_
  refine m_icmpY K X1.here hx hby (q := 39) d_method_2_31 (flt (by decide : ¬ ((3 : Int32) < (1 : Int32)))).2.2.2 (by decide) rfl ?_
  refine m_iloadN K X1.here hx hby d_method_2_39 rfl rfl ?_
  refine m_iconst K X1.here hx hby (4 : Int32) d_method_2_40 rfl rfl ?_
  refine m_icmpY K X1.here hx hby (q := 49) d_method_2_41 (flt (by decide : ¬ ((4 : Int32) < (1 : Int32)))).2.2.2 (by decide) rfl ?_
  exact Go.retV X1 hx hby hlk hret d_method_2_49 (by decide) (by decide) (⟨zu0_1, zu1_1, zu2_1, rfl, N1, ((Keep.refl h0 [x2, bu]).trans K1 (allS (Or.inl (by simp)) (allS (Or.inl (by simp)) all0))), Ap1_0, Ap1_1⟩)
theorem ef7_2_2 (m : MethodId) (x0 : Addr) (x1 : Int32) (x2 : Int32) : entryFrame m #[(.ref x0), (.int x1), (.int x2)] 3 = mkF m 0 #[.val (.ref x0), .val (.int x1), .val (.int x2)] [] := by first | (simp [entryFrame, mkF, argsToLocals, Value.category]; done) | rfl
set_option maxRecDepth 65536 in
set_option maxHeartbeats 40000000 in
theorem c7_2_2 (l : Launch) (Z : State) (a0 : Array Value) (hw : ∀ d ∈ tables_1, d.before a0 Z = true) (a1 : Addr) (bo : Addr) (bu : Addr) (x0 : Addr) (x1 : Addr) (x2 : Addr) (u0 : Int32) (u1 : Int32) (u2 : Int32) (h0 : Heap) (n0 : Nat) (Z0 : n0 ≤ h0.size) (E_a1 : Exa Z h0 a1 "com/example/craterworks/craterworks/SharesStation") (F_occupied_a1 : Fld Z h0 a1 "com/example/craterworks/craterworks/SharesStation" "occupied" "[[Z" (.ref bo)) (F_uncovered_a1 : Fld Z h0 a1 "com/example/craterworks/craterworks/SharesStation" "uncovered" "[Z" (.ref bu)) (A_bo : Av Z h0 bo (.array .boolean) [(.ref x0), (.ref x1), (.ref x2)]) (A_x2 : Av Z h0 x2 .boolean [(.int (1 : Int32)), (.int (1 : Int32)), (.int (1 : Int32)), (.int (1 : Int32)), (.int (1 : Int32))]) (A_bu : Av Z h0 bu .boolean [(.int u0), (.int u1), (.int u2)]) (g_x2 : n0 ≤ x2) (g_bu : n0 ≤ bu) (ne_a1_x2 : a1 ≠ x2) (ne_a1_bu : a1 ≠ bu) (ne_bo_x2 : bo ≠ x2) (ne_bo_bu : bo ≠ bu) (ne_x2_bu : x2 ≠ bu) :
    Con l Z (⟨"com/example/craterworks/craterworks/SharesStationBranchesPinLaw", "takeN", "(Lcom/example/craterworks/craterworks/SharesStation;II)V"⟩ : MethodName) method_2_code 3 none ({ frames := 1, cells := 0, slots := 0, locals := 14 } : Room) [] #[(.ref a1), (.int (2 : Int32)), (.int (2 : Int32))] h0 (fun v h L => ∃ zu0 : Int32, ∃ zu1 : Int32, ∃ zu2 : Int32, v = none ∧ Fr n0 L ∧ Keep h0 h [x2, bu] ∧ Av Z h x2 .boolean [(.int (0 : Int32)), (.int (0 : Int32)), (.int (1 : Int32)), (.int (1 : Int32)), (.int (1 : Int32))] ∧ Av Z h bu .boolean [(.int zu0), (.int zu1), (.int zu2)]) := by
  refine Con.of (plainFor_of_name pn_com_example_craterworks_craterworks_SharesStationBranchesPinLaw) #[.val (.ref a1), .val (.int (2 : Int32)), .val (.int (2 : Int32))] (fun m => ef7_2_2 m a1 (2 : Int32) (2 : Int32)) ?_
  intro p e s m below meth c s₁ K hx hby hml hown hnm hret hlk hZ X0 e0
  have N0 := Fr.nil n0
  refine m_iloadN K X0.here hx hby d_method_2_0 rfl rfl ?_
  refine m_ifN K X0.here hx hby (q := 4) d_method_2_1 ((if0 _ _).trans (tlt (by decide : (0 : Int32) < (2 : Int32))).2.2.2) rfl ?_
  refine m_aloadN K X0.here hx hby d_method_2_4 rfl rfl rfl ?_
  refine m_iloadN K X0.here hx hby d_method_2_5 rfl rfl ?_
  refine k_callV K X0 hx hby hZ a1 [(.int (2 : Int32))] [] hown (hw _ (List.mem_of_getElem? (i := 52) rfl)) (hw _ (List.mem_of_getElem? (i := 53) rfl)) (notFace_of_selects (args := #[]) (mvT hZ (hw _ (List.mem_of_getElem? (i := 55) rfl)))) (hw _ (List.mem_of_getElem? (i := 55) rfl)) (hw _ (List.mem_of_getElem? (i := 54) rfl)) (hw _ (List.mem_of_getElem? (i := 30) rfl)) (hw _ (List.mem_of_getElem? (i := 56) rfl)) (c8_2_0 l Z a0 hw a1 bo bu x0 x1 x2 u0 u1 u2 h0 n0 Z0 E_a1 F_occupied_a1 F_uncovered_a1 A_bo A_x2 A_bu g_x2 g_bu ne_a1_x2 ne_a1_bu ne_bo_x2 ne_bo_bu ne_x2_bu) e0 E_a1 rfl rfl pd_2 rfl d_method_2_6 (by rw [hml]; rfl) rfl (by decide) (by decide) (Nat.le_of_ble_eq_true rfl) (by decide) (by decide) fun v1 T1 L1 X1 q1 => ?_
  obtain ⟨zu0_1, zu1_1, zu2_1, rfl, Nq1, K1, Ap1_0, Ap1_1⟩ := q1
  have N1 := Fr.app N0 Nq1
  refine k_none K ?_
  refine m_iloadN K X1.here hx hby d_method_2_9 rfl rfl ?_
  refine m_iconst K X1.here hx hby (1 : Int32) d_method_2_10 rfl rfl ?_
  refine m_icmpN K X1.here hx hby (q := 14) d_method_2_11 (tlt (by decide : (1 : Int32) < (2 : Int32))).2.2.2 rfl ?_
  refine m_aloadN K X1.here hx hby d_method_2_14 rfl rfl rfl ?_
  refine m_iloadN K X1.here hx hby d_method_2_15 rfl rfl ?_
  refine k_callV K X1 hx hby hZ a1 [(.int (2 : Int32))] [] hown (hw _ (List.mem_of_getElem? (i := 52) rfl)) (hw _ (List.mem_of_getElem? (i := 53) rfl)) (notFace_of_selects (args := #[]) (mvT hZ (hw _ (List.mem_of_getElem? (i := 55) rfl)))) (hw _ (List.mem_of_getElem? (i := 55) rfl)) (hw _ (List.mem_of_getElem? (i := 54) rfl)) (hw _ (List.mem_of_getElem? (i := 30) rfl)) (hw _ (List.mem_of_getElem? (i := 56) rfl)) (c8_2_1 l Z a0 hw a1 bo bu x0 x1 x2 zu0_1 zu1_1 zu2_1 T1.heap n0 (Nat.le_trans Z0 (Nat.le_trans (Nat.le_refl _) K1.1)) (E_a1.keep K1) (F_occupied_a1.keep K1 (ninS ne_a1_x2 (ninS ne_a1_bu nin0))) (F_uncovered_a1.keep K1 (ninS ne_a1_x2 (ninS ne_a1_bu nin0))) (A_bo.keep K1 (ninS ne_bo_x2 (ninS ne_bo_bu nin0))) Ap1_0 Ap1_1 g_x2 g_bu ne_a1_x2 ne_a1_bu ne_bo_x2 ne_bo_bu ne_x2_bu) rfl (E_a1.keep K1) rfl rfl pd_2 rfl d_method_2_16 (by rw [hml]; rfl) rfl (by decide) (by decide) (Nat.le_of_ble_eq_true rfl) (by decide) (by decide) fun v2 T2 L2 X2 q2 => ?_
  obtain ⟨zu0_2, zu1_2, zu2_2, rfl, Nq2, K2, Ap2_0, Ap2_1⟩ := q2
  have N2 := Fr.app N1 Nq2
  refine k_none K ?_
  refine m_iloadN K X2.here hx hby d_method_2_19 rfl rfl ?_
  refine m_iconst K X2.here hx hby (2 : Int32) d_method_2_20 rfl rfl ?_
  refine m_icmpY K X2.here hx hby (q := 29) d_method_2_21 (flt (by decide : ¬ ((2 : Int32) < (2 : Int32)))).2.2.2 (by decide) rfl ?_
  refine m_iloadN K X2.here hx hby d_method_2_29 rfl rfl ?_
  refine m_iconst K X2.here hx hby (3 : Int32) d_method_2_30 rfl rfl ?_
  refine m_icmpY K X2.here hx hby (q := 39) d_method_2_31 (flt (by decide : ¬ ((3 : Int32) < (2 : Int32)))).2.2.2 (by decide) rfl ?_
  refine m_iloadN K X2.here hx hby d_method_2_39 rfl rfl ?_
  refine m_iconst K X2.here hx hby (4 : Int32) d_method_2_40 rfl rfl ?_
  refine m_icmpY K X2.here hx hby (q := 49) d_method_2_41 (flt (by decide : ¬ ((4 : Int32) < (2 : Int32)))).2.2.2 (by decide) rfl ?_
  exact Go.retV X2 hx hby hlk hret d_method_2_49 (by decide) (by decide) (⟨zu0_2, zu1_2, zu2_2, rfl, N2, (((Keep.refl h0 [x2, bu]).trans K1 (allS (Or.inl (by simp)) (allS (Or.inl (by simp)) all0))).trans K2 (allS (Or.inl (by simp)) (allS (Or.inl (by simp)) all0))), Ap2_0, Ap2_1⟩)
theorem ef7_2_3 (m : MethodId) (x0 : Addr) (x1 : Int32) (x2 : Int32) : entryFrame m #[(.ref x0), (.int x1), (.int x2)] 3 = mkF m 0 #[.val (.ref x0), .val (.int x1), .val (.int x2)] [] := by first | (simp [entryFrame, mkF, argsToLocals, Value.category]; done) | rfl
set_option maxRecDepth 65536 in
set_option maxHeartbeats 40000000 in
theorem c7_2_3 (l : Launch) (Z : State) (a0 : Array Value) (hw : ∀ d ∈ tables_1, d.before a0 Z = true) (a1 : Addr) (bo : Addr) (bu : Addr) (x0 : Addr) (x1 : Addr) (x2 : Addr) (u0 : Int32) (u1 : Int32) (u2 : Int32) (h0 : Heap) (n0 : Nat) (Z0 : n0 ≤ h0.size) (E_a1 : Exa Z h0 a1 "com/example/craterworks/craterworks/SharesStation") (F_occupied_a1 : Fld Z h0 a1 "com/example/craterworks/craterworks/SharesStation" "occupied" "[[Z" (.ref bo)) (F_uncovered_a1 : Fld Z h0 a1 "com/example/craterworks/craterworks/SharesStation" "uncovered" "[Z" (.ref bu)) (A_bo : Av Z h0 bo (.array .boolean) [(.ref x0), (.ref x1), (.ref x2)]) (A_x2 : Av Z h0 x2 .boolean [(.int (1 : Int32)), (.int (1 : Int32)), (.int (1 : Int32)), (.int (1 : Int32)), (.int (1 : Int32))]) (A_bu : Av Z h0 bu .boolean [(.int u0), (.int u1), (.int u2)]) (g_x2 : n0 ≤ x2) (g_bu : n0 ≤ bu) (ne_a1_x2 : a1 ≠ x2) (ne_a1_bu : a1 ≠ bu) (ne_bo_x2 : bo ≠ x2) (ne_bo_bu : bo ≠ bu) (ne_x2_bu : x2 ≠ bu) :
    Con l Z (⟨"com/example/craterworks/craterworks/SharesStationBranchesPinLaw", "takeN", "(Lcom/example/craterworks/craterworks/SharesStation;II)V"⟩ : MethodName) method_2_code 3 none ({ frames := 1, cells := 0, slots := 0, locals := 14 } : Room) [] #[(.ref a1), (.int (2 : Int32)), (.int (3 : Int32))] h0 (fun v h L => ∃ zu0 : Int32, ∃ zu1 : Int32, ∃ zu2 : Int32, v = none ∧ Fr n0 L ∧ Keep h0 h [x2, bu] ∧ Av Z h x2 .boolean [(.int (0 : Int32)), (.int (0 : Int32)), (.int (0 : Int32)), (.int (1 : Int32)), (.int (1 : Int32))] ∧ Av Z h bu .boolean [(.int zu0), (.int zu1), (.int zu2)]) := by
  refine Con.of (plainFor_of_name pn_com_example_craterworks_craterworks_SharesStationBranchesPinLaw) #[.val (.ref a1), .val (.int (2 : Int32)), .val (.int (3 : Int32))] (fun m => ef7_2_3 m a1 (2 : Int32) (3 : Int32)) ?_
  intro p e s m below meth c s₁ K hx hby hml hown hnm hret hlk hZ X0 e0
  have N0 := Fr.nil n0
  refine m_iloadN K X0.here hx hby d_method_2_0 rfl rfl ?_
  refine m_ifN K X0.here hx hby (q := 4) d_method_2_1 ((if0 _ _).trans (tlt (by decide : (0 : Int32) < (3 : Int32))).2.2.2) rfl ?_
  refine m_aloadN K X0.here hx hby d_method_2_4 rfl rfl rfl ?_
  refine m_iloadN K X0.here hx hby d_method_2_5 rfl rfl ?_
  refine k_callV K X0 hx hby hZ a1 [(.int (2 : Int32))] [] hown (hw _ (List.mem_of_getElem? (i := 52) rfl)) (hw _ (List.mem_of_getElem? (i := 53) rfl)) (notFace_of_selects (args := #[]) (mvT hZ (hw _ (List.mem_of_getElem? (i := 55) rfl)))) (hw _ (List.mem_of_getElem? (i := 55) rfl)) (hw _ (List.mem_of_getElem? (i := 54) rfl)) (hw _ (List.mem_of_getElem? (i := 30) rfl)) (hw _ (List.mem_of_getElem? (i := 56) rfl)) (c8_2_0 l Z a0 hw a1 bo bu x0 x1 x2 u0 u1 u2 h0 n0 Z0 E_a1 F_occupied_a1 F_uncovered_a1 A_bo A_x2 A_bu g_x2 g_bu ne_a1_x2 ne_a1_bu ne_bo_x2 ne_bo_bu ne_x2_bu) e0 E_a1 rfl rfl pd_2 rfl d_method_2_6 (by rw [hml]; rfl) rfl (by decide) (by decide) (Nat.le_of_ble_eq_true rfl) (by decide) (by decide) fun v1 T1 L1 X1 q1 => ?_
  obtain ⟨zu0_1, zu1_1, zu2_1, rfl, Nq1, K1, Ap1_0, Ap1_1⟩ := q1
  have N1 := Fr.app N0 Nq1
  refine k_none K ?_
  refine m_iloadN K X1.here hx hby d_method_2_9 rfl rfl ?_
  refine m_iconst K X1.here hx hby (1 : Int32) d_method_2_10 rfl rfl ?_
  refine m_icmpN K X1.here hx hby (q := 14) d_method_2_11 (tlt (by decide : (1 : Int32) < (3 : Int32))).2.2.2 rfl ?_
  refine m_aloadN K X1.here hx hby d_method_2_14 rfl rfl rfl ?_
  refine m_iloadN K X1.here hx hby d_method_2_15 rfl rfl ?_
  refine k_callV K X1 hx hby hZ a1 [(.int (2 : Int32))] [] hown (hw _ (List.mem_of_getElem? (i := 52) rfl)) (hw _ (List.mem_of_getElem? (i := 53) rfl)) (notFace_of_selects (args := #[]) (mvT hZ (hw _ (List.mem_of_getElem? (i := 55) rfl)))) (hw _ (List.mem_of_getElem? (i := 55) rfl)) (hw _ (List.mem_of_getElem? (i := 54) rfl)) (hw _ (List.mem_of_getElem? (i := 30) rfl)) (hw _ (List.mem_of_getElem? (i := 56) rfl)) (c8_2_1 l Z a0 hw a1 bo bu x0 x1 x2 zu0_1 zu1_1 zu2_1 T1.heap n0 (Nat.le_trans Z0 (Nat.le_trans (Nat.le_refl _) K1.1)) (E_a1.keep K1) (F_occupied_a1.keep K1 (ninS ne_a1_x2 (ninS ne_a1_bu nin0))) (F_uncovered_a1.keep K1 (ninS ne_a1_x2 (ninS ne_a1_bu nin0))) (A_bo.keep K1 (ninS ne_bo_x2 (ninS ne_bo_bu nin0))) Ap1_0 Ap1_1 g_x2 g_bu ne_a1_x2 ne_a1_bu ne_bo_x2 ne_bo_bu ne_x2_bu) rfl (E_a1.keep K1) rfl rfl pd_2 rfl d_method_2_16 (by rw [hml]; rfl) rfl (by decide) (by decide) (Nat.le_of_ble_eq_true rfl) (by decide) (by decide) fun v2 T2 L2 X2 q2 => ?_
  obtain ⟨zu0_2, zu1_2, zu2_2, rfl, Nq2, K2, Ap2_0, Ap2_1⟩ := q2
  have N2 := Fr.app N1 Nq2
  refine k_none K ?_
  refine m_iloadN K X2.here hx hby d_method_2_19 rfl rfl ?_
  refine m_iconst K X2.here hx hby (2 : Int32) d_method_2_20 rfl rfl ?_
  refine m_icmpN K X2.here hx hby (q := 24) d_method_2_21 (tlt (by decide : (2 : Int32) < (3 : Int32))).2.2.2 rfl ?_
  refine m_aloadN K X2.here hx hby d_method_2_24 rfl rfl rfl ?_
  refine m_iloadN K X2.here hx hby d_method_2_25 rfl rfl ?_
  refine k_callV K X2 hx hby hZ a1 [(.int (2 : Int32))] [] hown (hw _ (List.mem_of_getElem? (i := 52) rfl)) (hw _ (List.mem_of_getElem? (i := 53) rfl)) (notFace_of_selects (args := #[]) (mvT hZ (hw _ (List.mem_of_getElem? (i := 55) rfl)))) (hw _ (List.mem_of_getElem? (i := 55) rfl)) (hw _ (List.mem_of_getElem? (i := 54) rfl)) (hw _ (List.mem_of_getElem? (i := 30) rfl)) (hw _ (List.mem_of_getElem? (i := 56) rfl)) (c8_2_2 l Z a0 hw a1 bo bu x0 x1 x2 zu0_2 zu1_2 zu2_2 T2.heap n0 (Nat.le_trans Z0 (Nat.le_trans (Nat.le_trans (Nat.le_refl _) K1.1) K2.1)) ((E_a1.keep K1).keep K2) ((F_occupied_a1.keep K1 (ninS ne_a1_x2 (ninS ne_a1_bu nin0))).keep K2 (ninS ne_a1_x2 (ninS ne_a1_bu nin0))) ((F_uncovered_a1.keep K1 (ninS ne_a1_x2 (ninS ne_a1_bu nin0))).keep K2 (ninS ne_a1_x2 (ninS ne_a1_bu nin0))) ((A_bo.keep K1 (ninS ne_bo_x2 (ninS ne_bo_bu nin0))).keep K2 (ninS ne_bo_x2 (ninS ne_bo_bu nin0))) Ap2_0 Ap2_1 g_x2 g_bu ne_a1_x2 ne_a1_bu ne_bo_x2 ne_bo_bu ne_x2_bu) rfl ((E_a1.keep K1).keep K2) rfl rfl pd_2 rfl d_method_2_26 (by rw [hml]; rfl) rfl (by decide) (by decide) (Nat.le_of_ble_eq_true rfl) (by decide) (by decide) fun v3 T3 L3 X3 q3 => ?_
  obtain ⟨zu0_3, zu1_3, zu2_3, rfl, Nq3, K3, Ap3_0, Ap3_1⟩ := q3
  have N3 := Fr.app N2 Nq3
  refine k_none K ?_
  refine m_iloadN K X3.here hx hby d_method_2_29 rfl rfl ?_
  refine m_iconst K X3.here hx hby (3 : Int32) d_method_2_30 rfl rfl ?_
  refine m_icmpY K X3.here hx hby (q := 39) d_method_2_31 (flt (by decide : ¬ ((3 : Int32) < (3 : Int32)))).2.2.2 (by decide) rfl ?_
  refine m_iloadN K X3.here hx hby d_method_2_39 rfl rfl ?_
  refine m_iconst K X3.here hx hby (4 : Int32) d_method_2_40 rfl rfl ?_
  refine m_icmpY K X3.here hx hby (q := 49) d_method_2_41 (flt (by decide : ¬ ((4 : Int32) < (3 : Int32)))).2.2.2 (by decide) rfl ?_
  exact Go.retV X3 hx hby hlk hret d_method_2_49 (by decide) (by decide) (⟨zu0_3, zu1_3, zu2_3, rfl, N3, ((((Keep.refl h0 [x2, bu]).trans K1 (allS (Or.inl (by simp)) (allS (Or.inl (by simp)) all0))).trans K2 (allS (Or.inl (by simp)) (allS (Or.inl (by simp)) all0))).trans K3 (allS (Or.inl (by simp)) (allS (Or.inl (by simp)) all0))), Ap3_0, Ap3_1⟩)
theorem ef7_2_4 (m : MethodId) (x0 : Addr) (x1 : Int32) (x2 : Int32) : entryFrame m #[(.ref x0), (.int x1), (.int x2)] 3 = mkF m 0 #[.val (.ref x0), .val (.int x1), .val (.int x2)] [] := by first | (simp [entryFrame, mkF, argsToLocals, Value.category]; done) | rfl
set_option maxRecDepth 65536 in
set_option maxHeartbeats 40000000 in
theorem c7_2_4 (l : Launch) (Z : State) (a0 : Array Value) (hw : ∀ d ∈ tables_1, d.before a0 Z = true) (a1 : Addr) (bo : Addr) (bu : Addr) (x0 : Addr) (x1 : Addr) (x2 : Addr) (u0 : Int32) (u1 : Int32) (u2 : Int32) (h0 : Heap) (n0 : Nat) (Z0 : n0 ≤ h0.size) (E_a1 : Exa Z h0 a1 "com/example/craterworks/craterworks/SharesStation") (F_occupied_a1 : Fld Z h0 a1 "com/example/craterworks/craterworks/SharesStation" "occupied" "[[Z" (.ref bo)) (F_uncovered_a1 : Fld Z h0 a1 "com/example/craterworks/craterworks/SharesStation" "uncovered" "[Z" (.ref bu)) (A_bo : Av Z h0 bo (.array .boolean) [(.ref x0), (.ref x1), (.ref x2)]) (A_x2 : Av Z h0 x2 .boolean [(.int (1 : Int32)), (.int (1 : Int32)), (.int (1 : Int32)), (.int (1 : Int32)), (.int (1 : Int32))]) (A_bu : Av Z h0 bu .boolean [(.int u0), (.int u1), (.int u2)]) (g_x2 : n0 ≤ x2) (g_bu : n0 ≤ bu) (ne_a1_x2 : a1 ≠ x2) (ne_a1_bu : a1 ≠ bu) (ne_bo_x2 : bo ≠ x2) (ne_bo_bu : bo ≠ bu) (ne_x2_bu : x2 ≠ bu) :
    Con l Z (⟨"com/example/craterworks/craterworks/SharesStationBranchesPinLaw", "takeN", "(Lcom/example/craterworks/craterworks/SharesStation;II)V"⟩ : MethodName) method_2_code 3 none ({ frames := 1, cells := 0, slots := 0, locals := 14 } : Room) [] #[(.ref a1), (.int (2 : Int32)), (.int (4 : Int32))] h0 (fun v h L => ∃ zu0 : Int32, ∃ zu1 : Int32, ∃ zu2 : Int32, v = none ∧ Fr n0 L ∧ Keep h0 h [x2, bu] ∧ Av Z h x2 .boolean [(.int (0 : Int32)), (.int (0 : Int32)), (.int (0 : Int32)), (.int (0 : Int32)), (.int (1 : Int32))] ∧ Av Z h bu .boolean [(.int zu0), (.int zu1), (.int zu2)]) := by
  refine Con.of (plainFor_of_name pn_com_example_craterworks_craterworks_SharesStationBranchesPinLaw) #[.val (.ref a1), .val (.int (2 : Int32)), .val (.int (4 : Int32))] (fun m => ef7_2_4 m a1 (2 : Int32) (4 : Int32)) ?_
  intro p e s m below meth c s₁ K hx hby hml hown hnm hret hlk hZ X0 e0
  have N0 := Fr.nil n0
  refine m_iloadN K X0.here hx hby d_method_2_0 rfl rfl ?_
  refine m_ifN K X0.here hx hby (q := 4) d_method_2_1 ((if0 _ _).trans (tlt (by decide : (0 : Int32) < (4 : Int32))).2.2.2) rfl ?_
  refine m_aloadN K X0.here hx hby d_method_2_4 rfl rfl rfl ?_
  refine m_iloadN K X0.here hx hby d_method_2_5 rfl rfl ?_
  refine k_callV K X0 hx hby hZ a1 [(.int (2 : Int32))] [] hown (hw _ (List.mem_of_getElem? (i := 52) rfl)) (hw _ (List.mem_of_getElem? (i := 53) rfl)) (notFace_of_selects (args := #[]) (mvT hZ (hw _ (List.mem_of_getElem? (i := 55) rfl)))) (hw _ (List.mem_of_getElem? (i := 55) rfl)) (hw _ (List.mem_of_getElem? (i := 54) rfl)) (hw _ (List.mem_of_getElem? (i := 30) rfl)) (hw _ (List.mem_of_getElem? (i := 56) rfl)) (c8_2_0 l Z a0 hw a1 bo bu x0 x1 x2 u0 u1 u2 h0 n0 Z0 E_a1 F_occupied_a1 F_uncovered_a1 A_bo A_x2 A_bu g_x2 g_bu ne_a1_x2 ne_a1_bu ne_bo_x2 ne_bo_bu ne_x2_bu) e0 E_a1 rfl rfl pd_2 rfl d_method_2_6 (by rw [hml]; rfl) rfl (by decide) (by decide) (Nat.le_of_ble_eq_true rfl) (by decide) (by decide) fun v1 T1 L1 X1 q1 => ?_
  obtain ⟨zu0_1, zu1_1, zu2_1, rfl, Nq1, K1, Ap1_0, Ap1_1⟩ := q1
  have N1 := Fr.app N0 Nq1
  refine k_none K ?_
  refine m_iloadN K X1.here hx hby d_method_2_9 rfl rfl ?_
  refine m_iconst K X1.here hx hby (1 : Int32) d_method_2_10 rfl rfl ?_
  refine m_icmpN K X1.here hx hby (q := 14) d_method_2_11 (tlt (by decide : (1 : Int32) < (4 : Int32))).2.2.2 rfl ?_
  refine m_aloadN K X1.here hx hby d_method_2_14 rfl rfl rfl ?_
  refine m_iloadN K X1.here hx hby d_method_2_15 rfl rfl ?_
  refine k_callV K X1 hx hby hZ a1 [(.int (2 : Int32))] [] hown (hw _ (List.mem_of_getElem? (i := 52) rfl)) (hw _ (List.mem_of_getElem? (i := 53) rfl)) (notFace_of_selects (args := #[]) (mvT hZ (hw _ (List.mem_of_getElem? (i := 55) rfl)))) (hw _ (List.mem_of_getElem? (i := 55) rfl)) (hw _ (List.mem_of_getElem? (i := 54) rfl)) (hw _ (List.mem_of_getElem? (i := 30) rfl)) (hw _ (List.mem_of_getElem? (i := 56) rfl)) (c8_2_1 l Z a0 hw a1 bo bu x0 x1 x2 zu0_1 zu1_1 zu2_1 T1.heap n0 (Nat.le_trans Z0 (Nat.le_trans (Nat.le_refl _) K1.1)) (E_a1.keep K1) (F_occupied_a1.keep K1 (ninS ne_a1_x2 (ninS ne_a1_bu nin0))) (F_uncovered_a1.keep K1 (ninS ne_a1_x2 (ninS ne_a1_bu nin0))) (A_bo.keep K1 (ninS ne_bo_x2 (ninS ne_bo_bu nin0))) Ap1_0 Ap1_1 g_x2 g_bu ne_a1_x2 ne_a1_bu ne_bo_x2 ne_bo_bu ne_x2_bu) rfl (E_a1.keep K1) rfl rfl pd_2 rfl d_method_2_16 (by rw [hml]; rfl) rfl (by decide) (by decide) (Nat.le_of_ble_eq_true rfl) (by decide) (by decide) fun v2 T2 L2 X2 q2 => ?_
  obtain ⟨zu0_2, zu1_2, zu2_2, rfl, Nq2, K2, Ap2_0, Ap2_1⟩ := q2
  have N2 := Fr.app N1 Nq2
  refine k_none K ?_
  refine m_iloadN K X2.here hx hby d_method_2_19 rfl rfl ?_
  refine m_iconst K X2.here hx hby (2 : Int32) d_method_2_20 rfl rfl ?_
  refine m_icmpN K X2.here hx hby (q := 24) d_method_2_21 (tlt (by decide : (2 : Int32) < (4 : Int32))).2.2.2 rfl ?_
  refine m_aloadN K X2.here hx hby d_method_2_24 rfl rfl rfl ?_
  refine m_iloadN K X2.here hx hby d_method_2_25 rfl rfl ?_
  refine k_callV K X2 hx hby hZ a1 [(.int (2 : Int32))] [] hown (hw _ (List.mem_of_getElem? (i := 52) rfl)) (hw _ (List.mem_of_getElem? (i := 53) rfl)) (notFace_of_selects (args := #[]) (mvT hZ (hw _ (List.mem_of_getElem? (i := 55) rfl)))) (hw _ (List.mem_of_getElem? (i := 55) rfl)) (hw _ (List.mem_of_getElem? (i := 54) rfl)) (hw _ (List.mem_of_getElem? (i := 30) rfl)) (hw _ (List.mem_of_getElem? (i := 56) rfl)) (c8_2_2 l Z a0 hw a1 bo bu x0 x1 x2 zu0_2 zu1_2 zu2_2 T2.heap n0 (Nat.le_trans Z0 (Nat.le_trans (Nat.le_trans (Nat.le_refl _) K1.1) K2.1)) ((E_a1.keep K1).keep K2) ((F_occupied_a1.keep K1 (ninS ne_a1_x2 (ninS ne_a1_bu nin0))).keep K2 (ninS ne_a1_x2 (ninS ne_a1_bu nin0))) ((F_uncovered_a1.keep K1 (ninS ne_a1_x2 (ninS ne_a1_bu nin0))).keep K2 (ninS ne_a1_x2 (ninS ne_a1_bu nin0))) ((A_bo.keep K1 (ninS ne_bo_x2 (ninS ne_bo_bu nin0))).keep K2 (ninS ne_bo_x2 (ninS ne_bo_bu nin0))) Ap2_0 Ap2_1 g_x2 g_bu ne_a1_x2 ne_a1_bu ne_bo_x2 ne_bo_bu ne_x2_bu) rfl ((E_a1.keep K1).keep K2) rfl rfl pd_2 rfl d_method_2_26 (by rw [hml]; rfl) rfl (by decide) (by decide) (Nat.le_of_ble_eq_true rfl) (by decide) (by decide) fun v3 T3 L3 X3 q3 => ?_
  obtain ⟨zu0_3, zu1_3, zu2_3, rfl, Nq3, K3, Ap3_0, Ap3_1⟩ := q3
  have N3 := Fr.app N2 Nq3
  refine k_none K ?_
  refine m_iloadN K X3.here hx hby d_method_2_29 rfl rfl ?_
  refine m_iconst K X3.here hx hby (3 : Int32) d_method_2_30 rfl rfl ?_
  refine m_icmpN K X3.here hx hby (q := 34) d_method_2_31 (tlt (by decide : (3 : Int32) < (4 : Int32))).2.2.2 rfl ?_
  refine m_aloadN K X3.here hx hby d_method_2_34 rfl rfl rfl ?_
  refine m_iloadN K X3.here hx hby d_method_2_35 rfl rfl ?_
  refine k_callV K X3 hx hby hZ a1 [(.int (2 : Int32))] [] hown (hw _ (List.mem_of_getElem? (i := 52) rfl)) (hw _ (List.mem_of_getElem? (i := 53) rfl)) (notFace_of_selects (args := #[]) (mvT hZ (hw _ (List.mem_of_getElem? (i := 55) rfl)))) (hw _ (List.mem_of_getElem? (i := 55) rfl)) (hw _ (List.mem_of_getElem? (i := 54) rfl)) (hw _ (List.mem_of_getElem? (i := 30) rfl)) (hw _ (List.mem_of_getElem? (i := 56) rfl)) (c8_2_3 l Z a0 hw a1 bo bu x0 x1 x2 zu0_3 zu1_3 zu2_3 T3.heap n0 (Nat.le_trans Z0 (Nat.le_trans (Nat.le_trans (Nat.le_trans (Nat.le_refl _) K1.1) K2.1) K3.1)) (((E_a1.keep K1).keep K2).keep K3) (((F_occupied_a1.keep K1 (ninS ne_a1_x2 (ninS ne_a1_bu nin0))).keep K2 (ninS ne_a1_x2 (ninS ne_a1_bu nin0))).keep K3 (ninS ne_a1_x2 (ninS ne_a1_bu nin0))) (((F_uncovered_a1.keep K1 (ninS ne_a1_x2 (ninS ne_a1_bu nin0))).keep K2 (ninS ne_a1_x2 (ninS ne_a1_bu nin0))).keep K3 (ninS ne_a1_x2 (ninS ne_a1_bu nin0))) (((A_bo.keep K1 (ninS ne_bo_x2 (ninS ne_bo_bu nin0))).keep K2 (ninS ne_bo_x2 (ninS ne_bo_bu nin0))).keep K3 (ninS ne_bo_x2 (ninS ne_bo_bu nin0))) Ap3_0 Ap3_1 g_x2 g_bu ne_a1_x2 ne_a1_bu ne_bo_x2 ne_bo_bu ne_x2_bu) rfl (((E_a1.keep K1).keep K2).keep K3) rfl rfl pd_2 rfl d_method_2_36 (by rw [hml]; rfl) rfl (by decide) (by decide) (Nat.le_of_ble_eq_true rfl) (by decide) (by decide) fun v4 T4 L4 X4 q4 => ?_
  obtain ⟨zu0_4, zu1_4, zu2_4, rfl, Nq4, K4, Ap4_0, Ap4_1⟩ := q4
  have N4 := Fr.app N3 Nq4
  refine k_none K ?_
  refine m_iloadN K X4.here hx hby d_method_2_39 rfl rfl ?_
  refine m_iconst K X4.here hx hby (4 : Int32) d_method_2_40 rfl rfl ?_
  refine m_icmpY K X4.here hx hby (q := 49) d_method_2_41 (flt (by decide : ¬ ((4 : Int32) < (4 : Int32)))).2.2.2 (by decide) rfl ?_
  exact Go.retV X4 hx hby hlk hret d_method_2_49 (by decide) (by decide) (⟨zu0_4, zu1_4, zu2_4, rfl, N4, (((((Keep.refl h0 [x2, bu]).trans K1 (allS (Or.inl (by simp)) (allS (Or.inl (by simp)) all0))).trans K2 (allS (Or.inl (by simp)) (allS (Or.inl (by simp)) all0))).trans K3 (allS (Or.inl (by simp)) (allS (Or.inl (by simp)) all0))).trans K4 (allS (Or.inl (by simp)) (allS (Or.inl (by simp)) all0))), Ap4_0, Ap4_1⟩)
theorem ef7_2_5 (m : MethodId) (x0 : Addr) (x1 : Int32) (x2 : Int32) : entryFrame m #[(.ref x0), (.int x1), (.int x2)] 3 = mkF m 0 #[.val (.ref x0), .val (.int x1), .val (.int x2)] [] := by first | (simp [entryFrame, mkF, argsToLocals, Value.category]; done) | rfl
set_option maxRecDepth 65536 in
set_option maxHeartbeats 40000000 in
theorem c7_2_5 (l : Launch) (Z : State) (a0 : Array Value) (hw : ∀ d ∈ tables_1, d.before a0 Z = true) (a1 : Addr) (bo : Addr) (bu : Addr) (x0 : Addr) (x1 : Addr) (x2 : Addr) (u0 : Int32) (u1 : Int32) (u2 : Int32) (h0 : Heap) (n0 : Nat) (Z0 : n0 ≤ h0.size) (E_a1 : Exa Z h0 a1 "com/example/craterworks/craterworks/SharesStation") (F_occupied_a1 : Fld Z h0 a1 "com/example/craterworks/craterworks/SharesStation" "occupied" "[[Z" (.ref bo)) (F_uncovered_a1 : Fld Z h0 a1 "com/example/craterworks/craterworks/SharesStation" "uncovered" "[Z" (.ref bu)) (A_bo : Av Z h0 bo (.array .boolean) [(.ref x0), (.ref x1), (.ref x2)]) (A_x2 : Av Z h0 x2 .boolean [(.int (1 : Int32)), (.int (1 : Int32)), (.int (1 : Int32)), (.int (1 : Int32)), (.int (1 : Int32))]) (A_bu : Av Z h0 bu .boolean [(.int u0), (.int u1), (.int u2)]) (g_x2 : n0 ≤ x2) (g_bu : n0 ≤ bu) (ne_a1_x2 : a1 ≠ x2) (ne_a1_bu : a1 ≠ bu) (ne_bo_x2 : bo ≠ x2) (ne_bo_bu : bo ≠ bu) (ne_x2_bu : x2 ≠ bu) :
    Con l Z (⟨"com/example/craterworks/craterworks/SharesStationBranchesPinLaw", "takeN", "(Lcom/example/craterworks/craterworks/SharesStation;II)V"⟩ : MethodName) method_2_code 3 none ({ frames := 1, cells := 0, slots := 0, locals := 14 } : Room) [] #[(.ref a1), (.int (2 : Int32)), (.int (5 : Int32))] h0 (fun v h L => ∃ zu0 : Int32, ∃ zu1 : Int32, ∃ zu2 : Int32, v = none ∧ Fr n0 L ∧ Keep h0 h [x2, bu] ∧ Av Z h x2 .boolean [(.int (0 : Int32)), (.int (0 : Int32)), (.int (0 : Int32)), (.int (0 : Int32)), (.int (0 : Int32))] ∧ Av Z h bu .boolean [(.int zu0), (.int zu1), (.int zu2)]) := by
  refine Con.of (plainFor_of_name pn_com_example_craterworks_craterworks_SharesStationBranchesPinLaw) #[.val (.ref a1), .val (.int (2 : Int32)), .val (.int (5 : Int32))] (fun m => ef7_2_5 m a1 (2 : Int32) (5 : Int32)) ?_
  intro p e s m below meth c s₁ K hx hby hml hown hnm hret hlk hZ X0 e0
  have N0 := Fr.nil n0
  refine m_iloadN K X0.here hx hby d_method_2_0 rfl rfl ?_
  refine m_ifN K X0.here hx hby (q := 4) d_method_2_1 ((if0 _ _).trans (tlt (by decide : (0 : Int32) < (5 : Int32))).2.2.2) rfl ?_
  refine m_aloadN K X0.here hx hby d_method_2_4 rfl rfl rfl ?_
  refine m_iloadN K X0.here hx hby d_method_2_5 rfl rfl ?_
  refine k_callV K X0 hx hby hZ a1 [(.int (2 : Int32))] [] hown (hw _ (List.mem_of_getElem? (i := 52) rfl)) (hw _ (List.mem_of_getElem? (i := 53) rfl)) (notFace_of_selects (args := #[]) (mvT hZ (hw _ (List.mem_of_getElem? (i := 55) rfl)))) (hw _ (List.mem_of_getElem? (i := 55) rfl)) (hw _ (List.mem_of_getElem? (i := 54) rfl)) (hw _ (List.mem_of_getElem? (i := 30) rfl)) (hw _ (List.mem_of_getElem? (i := 56) rfl)) (c8_2_0 l Z a0 hw a1 bo bu x0 x1 x2 u0 u1 u2 h0 n0 Z0 E_a1 F_occupied_a1 F_uncovered_a1 A_bo A_x2 A_bu g_x2 g_bu ne_a1_x2 ne_a1_bu ne_bo_x2 ne_bo_bu ne_x2_bu) e0 E_a1 rfl rfl pd_2 rfl d_method_2_6 (by rw [hml]; rfl) rfl (by decide) (by decide) (Nat.le_of_ble_eq_true rfl) (by decide) (by decide) fun v1 T1 L1 X1 q1 => ?_
  obtain ⟨zu0_1, zu1_1, zu2_1, rfl, Nq1, K1, Ap1_0, Ap1_1⟩ := q1
  have N1 := Fr.app N0 Nq1
  refine k_none K ?_
  refine m_iloadN K X1.here hx hby d_method_2_9 rfl rfl ?_
  refine m_iconst K X1.here hx hby (1 : Int32) d_method_2_10 rfl rfl ?_
  refine m_icmpN K X1.here hx hby (q := 14) d_method_2_11 (tlt (by decide : (1 : Int32) < (5 : Int32))).2.2.2 rfl ?_
  refine m_aloadN K X1.here hx hby d_method_2_14 rfl rfl rfl ?_
  refine m_iloadN K X1.here hx hby d_method_2_15 rfl rfl ?_
  refine k_callV K X1 hx hby hZ a1 [(.int (2 : Int32))] [] hown (hw _ (List.mem_of_getElem? (i := 52) rfl)) (hw _ (List.mem_of_getElem? (i := 53) rfl)) (notFace_of_selects (args := #[]) (mvT hZ (hw _ (List.mem_of_getElem? (i := 55) rfl)))) (hw _ (List.mem_of_getElem? (i := 55) rfl)) (hw _ (List.mem_of_getElem? (i := 54) rfl)) (hw _ (List.mem_of_getElem? (i := 30) rfl)) (hw _ (List.mem_of_getElem? (i := 56) rfl)) (c8_2_1 l Z a0 hw a1 bo bu x0 x1 x2 zu0_1 zu1_1 zu2_1 T1.heap n0 (Nat.le_trans Z0 (Nat.le_trans (Nat.le_refl _) K1.1)) (E_a1.keep K1) (F_occupied_a1.keep K1 (ninS ne_a1_x2 (ninS ne_a1_bu nin0))) (F_uncovered_a1.keep K1 (ninS ne_a1_x2 (ninS ne_a1_bu nin0))) (A_bo.keep K1 (ninS ne_bo_x2 (ninS ne_bo_bu nin0))) Ap1_0 Ap1_1 g_x2 g_bu ne_a1_x2 ne_a1_bu ne_bo_x2 ne_bo_bu ne_x2_bu) rfl (E_a1.keep K1) rfl rfl pd_2 rfl d_method_2_16 (by rw [hml]; rfl) rfl (by decide) (by decide) (Nat.le_of_ble_eq_true rfl) (by decide) (by decide) fun v2 T2 L2 X2 q2 => ?_
  obtain ⟨zu0_2, zu1_2, zu2_2, rfl, Nq2, K2, Ap2_0, Ap2_1⟩ := q2
  have N2 := Fr.app N1 Nq2
  refine k_none K ?_
  refine m_iloadN K X2.here hx hby d_method_2_19 rfl rfl ?_
  refine m_iconst K X2.here hx hby (2 : Int32) d_method_2_20 rfl rfl ?_
  refine m_icmpN K X2.here hx hby (q := 24) d_method_2_21 (tlt (by decide : (2 : Int32) < (5 : Int32))).2.2.2 rfl ?_
  refine m_aloadN K X2.here hx hby d_method_2_24 rfl rfl rfl ?_
  refine m_iloadN K X2.here hx hby d_method_2_25 rfl rfl ?_
  refine k_callV K X2 hx hby hZ a1 [(.int (2 : Int32))] [] hown (hw _ (List.mem_of_getElem? (i := 52) rfl)) (hw _ (List.mem_of_getElem? (i := 53) rfl)) (notFace_of_selects (args := #[]) (mvT hZ (hw _ (List.mem_of_getElem? (i := 55) rfl)))) (hw _ (List.mem_of_getElem? (i := 55) rfl)) (hw _ (List.mem_of_getElem? (i := 54) rfl)) (hw _ (List.mem_of_getElem? (i := 30) rfl)) (hw _ (List.mem_of_getElem? (i := 56) rfl)) (c8_2_2 l Z a0 hw a1 bo bu x0 x1 x2 zu0_2 zu1_2 zu2_2 T2.heap n0 (Nat.le_trans Z0 (Nat.le_trans (Nat.le_trans (Nat.le_refl _) K1.1) K2.1)) ((E_a1.keep K1).keep K2) ((F_occupied_a1.keep K1 (ninS ne_a1_x2 (ninS ne_a1_bu nin0))).keep K2 (ninS ne_a1_x2 (ninS ne_a1_bu nin0))) ((F_uncovered_a1.keep K1 (ninS ne_a1_x2 (ninS ne_a1_bu nin0))).keep K2 (ninS ne_a1_x2 (ninS ne_a1_bu nin0))) ((A_bo.keep K1 (ninS ne_bo_x2 (ninS ne_bo_bu nin0))).keep K2 (ninS ne_bo_x2 (ninS ne_bo_bu nin0))) Ap2_0 Ap2_1 g_x2 g_bu ne_a1_x2 ne_a1_bu ne_bo_x2 ne_bo_bu ne_x2_bu) rfl ((E_a1.keep K1).keep K2) rfl rfl pd_2 rfl d_method_2_26 (by rw [hml]; rfl) rfl (by decide) (by decide) (Nat.le_of_ble_eq_true rfl) (by decide) (by decide) fun v3 T3 L3 X3 q3 => ?_
  obtain ⟨zu0_3, zu1_3, zu2_3, rfl, Nq3, K3, Ap3_0, Ap3_1⟩ := q3
  have N3 := Fr.app N2 Nq3
  refine k_none K ?_
  refine m_iloadN K X3.here hx hby d_method_2_29 rfl rfl ?_
  refine m_iconst K X3.here hx hby (3 : Int32) d_method_2_30 rfl rfl ?_
  refine m_icmpN K X3.here hx hby (q := 34) d_method_2_31 (tlt (by decide : (3 : Int32) < (5 : Int32))).2.2.2 rfl ?_
  refine m_aloadN K X3.here hx hby d_method_2_34 rfl rfl rfl ?_
  refine m_iloadN K X3.here hx hby d_method_2_35 rfl rfl ?_
  refine k_callV K X3 hx hby hZ a1 [(.int (2 : Int32))] [] hown (hw _ (List.mem_of_getElem? (i := 52) rfl)) (hw _ (List.mem_of_getElem? (i := 53) rfl)) (notFace_of_selects (args := #[]) (mvT hZ (hw _ (List.mem_of_getElem? (i := 55) rfl)))) (hw _ (List.mem_of_getElem? (i := 55) rfl)) (hw _ (List.mem_of_getElem? (i := 54) rfl)) (hw _ (List.mem_of_getElem? (i := 30) rfl)) (hw _ (List.mem_of_getElem? (i := 56) rfl)) (c8_2_3 l Z a0 hw a1 bo bu x0 x1 x2 zu0_3 zu1_3 zu2_3 T3.heap n0 (Nat.le_trans Z0 (Nat.le_trans (Nat.le_trans (Nat.le_trans (Nat.le_refl _) K1.1) K2.1) K3.1)) (((E_a1.keep K1).keep K2).keep K3) (((F_occupied_a1.keep K1 (ninS ne_a1_x2 (ninS ne_a1_bu nin0))).keep K2 (ninS ne_a1_x2 (ninS ne_a1_bu nin0))).keep K3 (ninS ne_a1_x2 (ninS ne_a1_bu nin0))) (((F_uncovered_a1.keep K1 (ninS ne_a1_x2 (ninS ne_a1_bu nin0))).keep K2 (ninS ne_a1_x2 (ninS ne_a1_bu nin0))).keep K3 (ninS ne_a1_x2 (ninS ne_a1_bu nin0))) (((A_bo.keep K1 (ninS ne_bo_x2 (ninS ne_bo_bu nin0))).keep K2 (ninS ne_bo_x2 (ninS ne_bo_bu nin0))).keep K3 (ninS ne_bo_x2 (ninS ne_bo_bu nin0))) Ap3_0 Ap3_1 g_x2 g_bu ne_a1_x2 ne_a1_bu ne_bo_x2 ne_bo_bu ne_x2_bu) rfl (((E_a1.keep K1).keep K2).keep K3) rfl rfl pd_2 rfl d_method_2_36 (by rw [hml]; rfl) rfl (by decide) (by decide) (Nat.le_of_ble_eq_true rfl) (by decide) (by decide) fun v4 T4 L4 X4 q4 => ?_
  obtain ⟨zu0_4, zu1_4, zu2_4, rfl, Nq4, K4, Ap4_0, Ap4_1⟩ := q4
  have N4 := Fr.app N3 Nq4
  refine k_none K ?_
  refine m_iloadN K X4.here hx hby d_method_2_39 rfl rfl ?_
  refine m_iconst K X4.here hx hby (4 : Int32) d_method_2_40 rfl rfl ?_
  refine m_icmpN K X4.here hx hby (q := 44) d_method_2_41 (tlt (by decide : (4 : Int32) < (5 : Int32))).2.2.2 rfl ?_
  refine m_aloadN K X4.here hx hby d_method_2_44 rfl rfl rfl ?_
  refine m_iloadN K X4.here hx hby d_method_2_45 rfl rfl ?_
  refine k_callV K X4 hx hby hZ a1 [(.int (2 : Int32))] [] hown (hw _ (List.mem_of_getElem? (i := 52) rfl)) (hw _ (List.mem_of_getElem? (i := 53) rfl)) (notFace_of_selects (args := #[]) (mvT hZ (hw _ (List.mem_of_getElem? (i := 55) rfl)))) (hw _ (List.mem_of_getElem? (i := 55) rfl)) (hw _ (List.mem_of_getElem? (i := 54) rfl)) (hw _ (List.mem_of_getElem? (i := 30) rfl)) (hw _ (List.mem_of_getElem? (i := 56) rfl)) (c8_2_4 l Z a0 hw a1 bo bu x0 x1 x2 zu0_4 zu1_4 zu2_4 T4.heap n0 (Nat.le_trans Z0 (Nat.le_trans (Nat.le_trans (Nat.le_trans (Nat.le_trans (Nat.le_refl _) K1.1) K2.1) K3.1) K4.1)) ((((E_a1.keep K1).keep K2).keep K3).keep K4) ((((F_occupied_a1.keep K1 (ninS ne_a1_x2 (ninS ne_a1_bu nin0))).keep K2 (ninS ne_a1_x2 (ninS ne_a1_bu nin0))).keep K3 (ninS ne_a1_x2 (ninS ne_a1_bu nin0))).keep K4 (ninS ne_a1_x2 (ninS ne_a1_bu nin0))) ((((F_uncovered_a1.keep K1 (ninS ne_a1_x2 (ninS ne_a1_bu nin0))).keep K2 (ninS ne_a1_x2 (ninS ne_a1_bu nin0))).keep K3 (ninS ne_a1_x2 (ninS ne_a1_bu nin0))).keep K4 (ninS ne_a1_x2 (ninS ne_a1_bu nin0))) ((((A_bo.keep K1 (ninS ne_bo_x2 (ninS ne_bo_bu nin0))).keep K2 (ninS ne_bo_x2 (ninS ne_bo_bu nin0))).keep K3 (ninS ne_bo_x2 (ninS ne_bo_bu nin0))).keep K4 (ninS ne_bo_x2 (ninS ne_bo_bu nin0))) Ap4_0 Ap4_1 g_x2 g_bu ne_a1_x2 ne_a1_bu ne_bo_x2 ne_bo_bu ne_x2_bu) rfl ((((E_a1.keep K1).keep K2).keep K3).keep K4) rfl rfl pd_2 rfl d_method_2_46 (by rw [hml]; rfl) rfl (by decide) (by decide) (Nat.le_of_ble_eq_true rfl) (by decide) (by decide) fun v5 T5 L5 X5 q5 => ?_
  obtain ⟨zu0_5, zu1_5, zu2_5, rfl, Nq5, K5, Ap5_0, Ap5_1⟩ := q5
  have N5 := Fr.app N4 Nq5
  refine k_none K ?_
  exact Go.retV X5 hx hby hlk hret d_method_2_49 (by decide) (by decide) (⟨zu0_5, zu1_5, zu2_5, rfl, N5, ((((((Keep.refl h0 [x2, bu]).trans K1 (allS (Or.inl (by simp)) (allS (Or.inl (by simp)) all0))).trans K2 (allS (Or.inl (by simp)) (allS (Or.inl (by simp)) all0))).trans K3 (allS (Or.inl (by simp)) (allS (Or.inl (by simp)) all0))).trans K4 (allS (Or.inl (by simp)) (allS (Or.inl (by simp)) all0))).trans K5 (allS (Or.inl (by simp)) (allS (Or.inl (by simp)) all0))), Ap5_0, Ap5_1⟩)
theorem d_prog_6_12_0 : decode prog_6_method_12_code 0 = .ok (.iconst 3, 1) := by decide +kernel
theorem d_prog_6_12_1 : decode prog_6_method_12_code 1 = .ok (.istore_n 2, 1) := by decide +kernel
theorem d_prog_6_12_2 : decode prog_6_method_12_code 2 = .ok (.aload_n 0, 1) := by decide +kernel
theorem d_prog_6_12_3 : decode prog_6_method_12_code 3 = .ok (.getfield 11, 3) := by decide +kernel
theorem d_prog_6_12_6 : decode prog_6_method_12_code 6 = .ok (.iload_n 1, 1) := by decide +kernel
theorem d_prog_6_12_7 : decode prog_6_method_12_code 7 = .ok (.aaload, 1) := by decide +kernel
theorem d_prog_6_12_8 : decode prog_6_method_12_code 8 = .ok (.iload_n 2, 1) := by decide +kernel
theorem d_prog_6_12_9 : decode prog_6_method_12_code 9 = .ok (.baload, 1) := by decide +kernel
theorem d_prog_6_12_10 : decode prog_6_method_12_code 10 = .ok (.ifCond .eq 9, 3) := by decide +kernel
theorem d_prog_6_12_13 : decode prog_6_method_12_code 13 = .ok (.iinc 2 (-1), 3) := by decide +kernel
theorem d_prog_6_12_16 : decode prog_6_method_12_code 16 = .ok (.goto (-14), 3) := by decide +kernel
theorem d_prog_6_12_19 : decode prog_6_method_12_code 19 = .ok (.aload_n 0, 1) := by decide +kernel
theorem d_prog_6_12_20 : decode prog_6_method_12_code 20 = .ok (.getfield 11, 3) := by decide +kernel
theorem d_prog_6_12_23 : decode prog_6_method_12_code 23 = .ok (.iload_n 1, 1) := by decide +kernel
theorem d_prog_6_12_24 : decode prog_6_method_12_code 24 = .ok (.aaload, 1) := by decide +kernel
theorem d_prog_6_12_25 : decode prog_6_method_12_code 25 = .ok (.iload_n 2, 1) := by decide +kernel
theorem d_prog_6_12_26 : decode prog_6_method_12_code 26 = .ok (.iconst 1, 1) := by decide +kernel
theorem d_prog_6_12_27 : decode prog_6_method_12_code 27 = .ok (.bastore, 1) := by decide +kernel
theorem d_prog_6_12_28 : decode prog_6_method_12_code 28 = .ok (.return_, 1) := by decide +kernel
theorem ef11_0_1 (m : MethodId) (x0 : Addr) (x1 : Int32) : entryFrame m #[(.ref x0), (.int x1)] 3 = mkF m 0 #[.val (.ref x0), .val (.int x1), .unset] [] := by first | (simp [entryFrame, mkF, argsToLocals, Value.category]; done) | rfl
set_option maxRecDepth 65536 in
set_option maxHeartbeats 40000000 in
theorem c11_0_1 (l : Launch) (Z : State) (a0 : Array Value) (hw : ∀ d ∈ tables_1, d.before a0 Z = true) (a1 : Addr) (bo : Addr) (bu : Addr) (x0 : Addr) (x1 : Addr) (x2 : Addr) (h0 : Heap) (n0 : Nat) (Z0 : n0 ≤ h0.size) (E_a1 : Exa Z h0 a1 "com/example/craterworks/craterworks/SharesStation") (F_occupied_a1 : Fld Z h0 a1 "com/example/craterworks/craterworks/SharesStation" "occupied" "[[Z" (.ref bo)) (F_uncovered_a1 : Fld Z h0 a1 "com/example/craterworks/craterworks/SharesStation" "uncovered" "[Z" (.ref bu)) (A_bo : Av Z h0 bo (.array .boolean) [(.ref x0), (.ref x1), (.ref x2)]) (A_x0 : Av Z h0 x0 .boolean [(.int (0 : Int32)), (.int (1 : Int32)), (.int (1 : Int32)), (.int (1 : Int32)), (.int (1 : Int32))]) (g_x0 : n0 ≤ x0) (ne_a1_x0 : a1 ≠ x0) (ne_bo_x0 : bo ≠ x0) :
    Con l Z (⟨"com/example/craterworks/craterworks/SharesStation", "sendHome", "(I)V"⟩ : MethodName) prog_6_method_12_code 3 none ({ frames := 0, cells := 0, slots := 0, locals := 0 } : Room) [] #[(.ref a1), (.int (0 : Int32))] h0 (fun v h L => v = none ∧ Fr n0 L ∧ Keep h0 h [x0] ∧ Av Z h x0 .boolean [(.int (1 : Int32)), (.int (1 : Int32)), (.int (1 : Int32)), (.int (1 : Int32)), (.int (1 : Int32))]) := by
  refine Con.of (plainFor_of_name pn_com_example_craterworks_craterworks_SharesStation) #[.val (.ref a1), .val (.int (0 : Int32)), .unset] (fun m => ef11_0_1 m a1 (0 : Int32)) ?_
  intro p e s m below meth c s₁ K hx hby hml hown hnm hret hlk hZ X0 e0
  have N0 := Fr.nil n0
  refine m_iconst K X0.here hx hby (3 : Int32) d_prog_6_12_0 rfl rfl ?_
  refine m_istoreN K X0.here hx hby #[.val (.ref a1), .val (.int (0 : Int32)), .val (.int (3 : Int32))] d_prog_6_12_1 rfl rfl ?_
  refine m_aloadN K X0.here hx hby d_prog_6_12_2 rfl rfl rfl ?_
  refine k_getF K X0 hx hby hZ hown (host := "") (Or.inl (hw _ (List.mem_of_getElem? (i := 38) rfl))) Via.refl e0 F_occupied_a1 d_prog_6_12_3 rfl fun T1 X1 e1 => ?_
  refine m_iloadN K X1.here hx hby d_prog_6_12_6 rfl rfl ?_
  refine k_ldR K X1 hx hby hZ e1 rfl A_bo (v := (.ref x0)) (by decide) rfl d_prog_6_12_7 rfl ?_
  refine m_iloadN K X1.here hx hby d_prog_6_12_8 rfl rfl ?_
  refine k_ldZ K X1 hx hby hZ e1 A_x0 (v := (.int (1 : Int32))) (by decide) rfl d_prog_6_12_9 rfl ?_
  refine m_ifN K X1.here hx hby (q := 13) d_prog_6_12_10 ((if0 _ _).trans (feq (by decide : ¬ ((1 : Int32) = (0 : Int32)))).1) rfl ?_
  refine m_iinc K X1.here hx hby #[.val (.ref a1), .val (.int (0 : Int32)), .val (.int (2 : Int32))] d_prog_6_12_13 rfl rfl rfl ?_
  refine m_goto K X1.here hx hby (q := 2) d_prog_6_12_16 (by decide) rfl ?_
  refine m_aloadN K X1.here hx hby d_prog_6_12_2 rfl rfl rfl ?_
  refine k_getF K X1 hx hby hZ hown (host := "") (Or.inl (hw _ (List.mem_of_getElem? (i := 38) rfl))) Via.refl e1 F_occupied_a1 d_prog_6_12_3 rfl fun T2 X2 e2 => ?_
  refine m_iloadN K X2.here hx hby d_prog_6_12_6 rfl rfl ?_
  refine k_ldR K X2 hx hby hZ e2 rfl A_bo (v := (.ref x0)) (by decide) rfl d_prog_6_12_7 rfl ?_
  refine m_iloadN K X2.here hx hby d_prog_6_12_8 rfl rfl ?_
  refine k_ldZ K X2 hx hby hZ e2 A_x0 (v := (.int (1 : Int32))) (by decide) rfl d_prog_6_12_9 rfl ?_
  refine m_ifN K X2.here hx hby (q := 13) d_prog_6_12_10 ((if0 _ _).trans (feq (by decide : ¬ ((1 : Int32) = (0 : Int32)))).1) rfl ?_
  refine m_iinc K X2.here hx hby #[.val (.ref a1), .val (.int (0 : Int32)), .val (.int (1 : Int32))] d_prog_6_12_13 rfl rfl rfl ?_
  refine m_goto K X2.here hx hby (q := 2) d_prog_6_12_16 (by decide) rfl ?_
  refine m_aloadN K X2.here hx hby d_prog_6_12_2 rfl rfl rfl ?_
  refine k_getF K X2 hx hby hZ hown (host := "") (Or.inl (hw _ (List.mem_of_getElem? (i := 38) rfl))) Via.refl e2 F_occupied_a1 d_prog_6_12_3 rfl fun T3 X3 e3 => ?_
  refine m_iloadN K X3.here hx hby d_prog_6_12_6 rfl rfl ?_
  refine k_ldR K X3 hx hby hZ e3 rfl A_bo (v := (.ref x0)) (by decide) rfl d_prog_6_12_7 rfl ?_
  refine m_iloadN K X3.here hx hby d_prog_6_12_8 rfl rfl ?_
  refine k_ldZ K X3 hx hby hZ e3 A_x0 (v := (.int (1 : Int32))) (by decide) rfl d_prog_6_12_9 rfl ?_
  refine m_ifN K X3.here hx hby (q := 13) d_prog_6_12_10 ((if0 _ _).trans (feq (by decide : ¬ ((1 : Int32) = (0 : Int32)))).1) rfl ?_
  refine m_iinc K X3.here hx hby #[.val (.ref a1), .val (.int (0 : Int32)), .val (.int (0 : Int32))] d_prog_6_12_13 rfl rfl rfl ?_
  refine m_goto K X3.here hx hby (q := 2) d_prog_6_12_16 (by decide) rfl ?_
  refine m_aloadN K X3.here hx hby d_prog_6_12_2 rfl rfl rfl ?_
  refine k_getF K X3 hx hby hZ hown (host := "") (Or.inl (hw _ (List.mem_of_getElem? (i := 38) rfl))) Via.refl e3 F_occupied_a1 d_prog_6_12_3 rfl fun T4 X4 e4 => ?_
  refine m_iloadN K X4.here hx hby d_prog_6_12_6 rfl rfl ?_
  refine k_ldR K X4 hx hby hZ e4 rfl A_bo (v := (.ref x0)) (by decide) rfl d_prog_6_12_7 rfl ?_
  refine m_iloadN K X4.here hx hby d_prog_6_12_8 rfl rfl ?_
  refine k_ldZ K X4 hx hby hZ e4 A_x0 (v := (.int (0 : Int32))) (by decide) rfl d_prog_6_12_9 rfl ?_
  refine m_ifY K X4.here hx hby (q := 19) d_prog_6_12_10 ((if0 _ _).trans (teq (by decide : (0 : Int32) = (0 : Int32))).1) (by decide) rfl ?_
  refine m_aloadN K X4.here hx hby d_prog_6_12_19 rfl rfl rfl ?_
  refine k_getF K X4 hx hby hZ hown (host := "") (Or.inl (hw _ (List.mem_of_getElem? (i := 38) rfl))) Via.refl e4 F_occupied_a1 d_prog_6_12_20 rfl fun T5 X5 e5 => ?_
  refine m_iloadN K X5.here hx hby d_prog_6_12_23 rfl rfl ?_
  refine k_ldR K X5 hx hby hZ e5 rfl A_bo (v := (.ref x0)) (by decide) rfl d_prog_6_12_24 rfl ?_
  refine m_iloadN K X5.here hx hby d_prog_6_12_25 rfl rfl ?_
  refine m_iconst K X5.here hx hby (1 : Int32) d_prog_6_12_26 rfl rfl ?_
  refine k_stZ K X5 hx hby hZ e5 A_x0 (by decide) (Nat.le_of_ble_eq_true rfl) d_prog_6_12_27 rfl fun T6 h6 X6 e6 W6 V6 => ?_
  replace V6 : Av Z h6 x0 .boolean [(.int (1 : Int32)), (.int (1 : Int32)), (.int (1 : Int32)), (.int (1 : Int32)), (.int (1 : Int32))] := V6
  have N6 := Fr.snoc X6 N0 g_x0
  exact Go.retV X6 hx hby hlk hret d_prog_6_12_28 (by decide) (by decide) (by rw [e6]; exact ⟨rfl, N6, ((Keep.refl h0 [x0]).wr W6 (Or.inl (by simp))), V6⟩)
theorem ef11_0_2 (m : MethodId) (x0 : Addr) (x1 : Int32) : entryFrame m #[(.ref x0), (.int x1)] 3 = mkF m 0 #[.val (.ref x0), .val (.int x1), .unset] [] := by first | (simp [entryFrame, mkF, argsToLocals, Value.category]; done) | rfl
set_option maxRecDepth 65536 in
set_option maxHeartbeats 40000000 in
theorem c11_0_2 (l : Launch) (Z : State) (a0 : Array Value) (hw : ∀ d ∈ tables_1, d.before a0 Z = true) (a1 : Addr) (bo : Addr) (bu : Addr) (x0 : Addr) (x1 : Addr) (x2 : Addr) (h0 : Heap) (n0 : Nat) (Z0 : n0 ≤ h0.size) (E_a1 : Exa Z h0 a1 "com/example/craterworks/craterworks/SharesStation") (F_occupied_a1 : Fld Z h0 a1 "com/example/craterworks/craterworks/SharesStation" "occupied" "[[Z" (.ref bo)) (F_uncovered_a1 : Fld Z h0 a1 "com/example/craterworks/craterworks/SharesStation" "uncovered" "[Z" (.ref bu)) (A_bo : Av Z h0 bo (.array .boolean) [(.ref x0), (.ref x1), (.ref x2)]) (A_x0 : Av Z h0 x0 .boolean [(.int (0 : Int32)), (.int (0 : Int32)), (.int (1 : Int32)), (.int (1 : Int32)), (.int (1 : Int32))]) (g_x0 : n0 ≤ x0) (ne_a1_x0 : a1 ≠ x0) (ne_bo_x0 : bo ≠ x0) :
    Con l Z (⟨"com/example/craterworks/craterworks/SharesStation", "sendHome", "(I)V"⟩ : MethodName) prog_6_method_12_code 3 none ({ frames := 0, cells := 0, slots := 0, locals := 0 } : Room) [] #[(.ref a1), (.int (0 : Int32))] h0 (fun v h L => v = none ∧ Fr n0 L ∧ Keep h0 h [x0] ∧ Av Z h x0 .boolean [(.int (0 : Int32)), (.int (1 : Int32)), (.int (1 : Int32)), (.int (1 : Int32)), (.int (1 : Int32))]) := by
  refine Con.of (plainFor_of_name pn_com_example_craterworks_craterworks_SharesStation) #[.val (.ref a1), .val (.int (0 : Int32)), .unset] (fun m => ef11_0_2 m a1 (0 : Int32)) ?_
  intro p e s m below meth c s₁ K hx hby hml hown hnm hret hlk hZ X0 e0
  have N0 := Fr.nil n0
  refine m_iconst K X0.here hx hby (3 : Int32) d_prog_6_12_0 rfl rfl ?_
  refine m_istoreN K X0.here hx hby #[.val (.ref a1), .val (.int (0 : Int32)), .val (.int (3 : Int32))] d_prog_6_12_1 rfl rfl ?_
  refine m_aloadN K X0.here hx hby d_prog_6_12_2 rfl rfl rfl ?_
  refine k_getF K X0 hx hby hZ hown (host := "") (Or.inl (hw _ (List.mem_of_getElem? (i := 38) rfl))) Via.refl e0 F_occupied_a1 d_prog_6_12_3 rfl fun T1 X1 e1 => ?_
  refine m_iloadN K X1.here hx hby d_prog_6_12_6 rfl rfl ?_
  refine k_ldR K X1 hx hby hZ e1 rfl A_bo (v := (.ref x0)) (by decide) rfl d_prog_6_12_7 rfl ?_
  refine m_iloadN K X1.here hx hby d_prog_6_12_8 rfl rfl ?_
  refine k_ldZ K X1 hx hby hZ e1 A_x0 (v := (.int (1 : Int32))) (by decide) rfl d_prog_6_12_9 rfl ?_
  refine m_ifN K X1.here hx hby (q := 13) d_prog_6_12_10 ((if0 _ _).trans (feq (by decide : ¬ ((1 : Int32) = (0 : Int32)))).1) rfl ?_
  refine m_iinc K X1.here hx hby #[.val (.ref a1), .val (.int (0 : Int32)), .val (.int (2 : Int32))] d_prog_6_12_13 rfl rfl rfl ?_
  refine m_goto K X1.here hx hby (q := 2) d_prog_6_12_16 (by decide) rfl ?_
  refine m_aloadN K X1.here hx hby d_prog_6_12_2 rfl rfl rfl ?_
  refine k_getF K X1 hx hby hZ hown (host := "") (Or.inl (hw _ (List.mem_of_getElem? (i := 38) rfl))) Via.refl e1 F_occupied_a1 d_prog_6_12_3 rfl fun T2 X2 e2 => ?_
  refine m_iloadN K X2.here hx hby d_prog_6_12_6 rfl rfl ?_
  refine k_ldR K X2 hx hby hZ e2 rfl A_bo (v := (.ref x0)) (by decide) rfl d_prog_6_12_7 rfl ?_
  refine m_iloadN K X2.here hx hby d_prog_6_12_8 rfl rfl ?_
  refine k_ldZ K X2 hx hby hZ e2 A_x0 (v := (.int (1 : Int32))) (by decide) rfl d_prog_6_12_9 rfl ?_
  refine m_ifN K X2.here hx hby (q := 13) d_prog_6_12_10 ((if0 _ _).trans (feq (by decide : ¬ ((1 : Int32) = (0 : Int32)))).1) rfl ?_
  refine m_iinc K X2.here hx hby #[.val (.ref a1), .val (.int (0 : Int32)), .val (.int (1 : Int32))] d_prog_6_12_13 rfl rfl rfl ?_
  refine m_goto K X2.here hx hby (q := 2) d_prog_6_12_16 (by decide) rfl ?_
  refine m_aloadN K X2.here hx hby d_prog_6_12_2 rfl rfl rfl ?_
  refine k_getF K X2 hx hby hZ hown (host := "") (Or.inl (hw _ (List.mem_of_getElem? (i := 38) rfl))) Via.refl e2 F_occupied_a1 d_prog_6_12_3 rfl fun T3 X3 e3 => ?_
  refine m_iloadN K X3.here hx hby d_prog_6_12_6 rfl rfl ?_
  refine k_ldR K X3 hx hby hZ e3 rfl A_bo (v := (.ref x0)) (by decide) rfl d_prog_6_12_7 rfl ?_
  refine m_iloadN K X3.here hx hby d_prog_6_12_8 rfl rfl ?_
  refine k_ldZ K X3 hx hby hZ e3 A_x0 (v := (.int (0 : Int32))) (by decide) rfl d_prog_6_12_9 rfl ?_
  refine m_ifY K X3.here hx hby (q := 19) d_prog_6_12_10 ((if0 _ _).trans (teq (by decide : (0 : Int32) = (0 : Int32))).1) (by decide) rfl ?_
  refine m_aloadN K X3.here hx hby d_prog_6_12_19 rfl rfl rfl ?_
  refine k_getF K X3 hx hby hZ hown (host := "") (Or.inl (hw _ (List.mem_of_getElem? (i := 38) rfl))) Via.refl e3 F_occupied_a1 d_prog_6_12_20 rfl fun T4 X4 e4 => ?_
  refine m_iloadN K X4.here hx hby d_prog_6_12_23 rfl rfl ?_
  refine k_ldR K X4 hx hby hZ e4 rfl A_bo (v := (.ref x0)) (by decide) rfl d_prog_6_12_24 rfl ?_
  refine m_iloadN K X4.here hx hby d_prog_6_12_25 rfl rfl ?_
  refine m_iconst K X4.here hx hby (1 : Int32) d_prog_6_12_26 rfl rfl ?_
  refine k_stZ K X4 hx hby hZ e4 A_x0 (by decide) (Nat.le_of_ble_eq_true rfl) d_prog_6_12_27 rfl fun T5 h5 X5 e5 W5 V5 => ?_
  replace V5 : Av Z h5 x0 .boolean [(.int (0 : Int32)), (.int (1 : Int32)), (.int (1 : Int32)), (.int (1 : Int32)), (.int (1 : Int32))] := V5
  have N5 := Fr.snoc X5 N0 g_x0
  exact Go.retV X5 hx hby hlk hret d_prog_6_12_28 (by decide) (by decide) (by rw [e5]; exact ⟨rfl, N5, ((Keep.refl h0 [x0]).wr W5 (Or.inl (by simp))), V5⟩)
theorem ef11_0_3 (m : MethodId) (x0 : Addr) (x1 : Int32) : entryFrame m #[(.ref x0), (.int x1)] 3 = mkF m 0 #[.val (.ref x0), .val (.int x1), .unset] [] := by first | (simp [entryFrame, mkF, argsToLocals, Value.category]; done) | rfl
set_option maxRecDepth 65536 in
set_option maxHeartbeats 40000000 in
theorem c11_0_3 (l : Launch) (Z : State) (a0 : Array Value) (hw : ∀ d ∈ tables_1, d.before a0 Z = true) (a1 : Addr) (bo : Addr) (bu : Addr) (x0 : Addr) (x1 : Addr) (x2 : Addr) (h0 : Heap) (n0 : Nat) (Z0 : n0 ≤ h0.size) (E_a1 : Exa Z h0 a1 "com/example/craterworks/craterworks/SharesStation") (F_occupied_a1 : Fld Z h0 a1 "com/example/craterworks/craterworks/SharesStation" "occupied" "[[Z" (.ref bo)) (F_uncovered_a1 : Fld Z h0 a1 "com/example/craterworks/craterworks/SharesStation" "uncovered" "[Z" (.ref bu)) (A_bo : Av Z h0 bo (.array .boolean) [(.ref x0), (.ref x1), (.ref x2)]) (A_x0 : Av Z h0 x0 .boolean [(.int (0 : Int32)), (.int (0 : Int32)), (.int (0 : Int32)), (.int (1 : Int32)), (.int (1 : Int32))]) (g_x0 : n0 ≤ x0) (ne_a1_x0 : a1 ≠ x0) (ne_bo_x0 : bo ≠ x0) :
    Con l Z (⟨"com/example/craterworks/craterworks/SharesStation", "sendHome", "(I)V"⟩ : MethodName) prog_6_method_12_code 3 none ({ frames := 0, cells := 0, slots := 0, locals := 0 } : Room) [] #[(.ref a1), (.int (0 : Int32))] h0 (fun v h L => v = none ∧ Fr n0 L ∧ Keep h0 h [x0] ∧ Av Z h x0 .boolean [(.int (0 : Int32)), (.int (0 : Int32)), (.int (1 : Int32)), (.int (1 : Int32)), (.int (1 : Int32))]) := by
  refine Con.of (plainFor_of_name pn_com_example_craterworks_craterworks_SharesStation) #[.val (.ref a1), .val (.int (0 : Int32)), .unset] (fun m => ef11_0_3 m a1 (0 : Int32)) ?_
  intro p e s m below meth c s₁ K hx hby hml hown hnm hret hlk hZ X0 e0
  have N0 := Fr.nil n0
  refine m_iconst K X0.here hx hby (3 : Int32) d_prog_6_12_0 rfl rfl ?_
  refine m_istoreN K X0.here hx hby #[.val (.ref a1), .val (.int (0 : Int32)), .val (.int (3 : Int32))] d_prog_6_12_1 rfl rfl ?_
  refine m_aloadN K X0.here hx hby d_prog_6_12_2 rfl rfl rfl ?_
  refine k_getF K X0 hx hby hZ hown (host := "") (Or.inl (hw _ (List.mem_of_getElem? (i := 38) rfl))) Via.refl e0 F_occupied_a1 d_prog_6_12_3 rfl fun T1 X1 e1 => ?_
  refine m_iloadN K X1.here hx hby d_prog_6_12_6 rfl rfl ?_
  refine k_ldR K X1 hx hby hZ e1 rfl A_bo (v := (.ref x0)) (by decide) rfl d_prog_6_12_7 rfl ?_
  refine m_iloadN K X1.here hx hby d_prog_6_12_8 rfl rfl ?_
  refine k_ldZ K X1 hx hby hZ e1 A_x0 (v := (.int (1 : Int32))) (by decide) rfl d_prog_6_12_9 rfl ?_
  refine m_ifN K X1.here hx hby (q := 13) d_prog_6_12_10 ((if0 _ _).trans (feq (by decide : ¬ ((1 : Int32) = (0 : Int32)))).1) rfl ?_
  refine m_iinc K X1.here hx hby #[.val (.ref a1), .val (.int (0 : Int32)), .val (.int (2 : Int32))] d_prog_6_12_13 rfl rfl rfl ?_
  refine m_goto K X1.here hx hby (q := 2) d_prog_6_12_16 (by decide) rfl ?_
  refine m_aloadN K X1.here hx hby d_prog_6_12_2 rfl rfl rfl ?_
  refine k_getF K X1 hx hby hZ hown (host := "") (Or.inl (hw _ (List.mem_of_getElem? (i := 38) rfl))) Via.refl e1 F_occupied_a1 d_prog_6_12_3 rfl fun T2 X2 e2 => ?_
  refine m_iloadN K X2.here hx hby d_prog_6_12_6 rfl rfl ?_
  refine k_ldR K X2 hx hby hZ e2 rfl A_bo (v := (.ref x0)) (by decide) rfl d_prog_6_12_7 rfl ?_
  refine m_iloadN K X2.here hx hby d_prog_6_12_8 rfl rfl ?_
  refine k_ldZ K X2 hx hby hZ e2 A_x0 (v := (.int (0 : Int32))) (by decide) rfl d_prog_6_12_9 rfl ?_
  refine m_ifY K X2.here hx hby (q := 19) d_prog_6_12_10 ((if0 _ _).trans (teq (by decide : (0 : Int32) = (0 : Int32))).1) (by decide) rfl ?_
  refine m_aloadN K X2.here hx hby d_prog_6_12_19 rfl rfl rfl ?_
  refine k_getF K X2 hx hby hZ hown (host := "") (Or.inl (hw _ (List.mem_of_getElem? (i := 38) rfl))) Via.refl e2 F_occupied_a1 d_prog_6_12_20 rfl fun T3 X3 e3 => ?_
  refine m_iloadN K X3.here hx hby d_prog_6_12_23 rfl rfl ?_
  refine k_ldR K X3 hx hby hZ e3 rfl A_bo (v := (.ref x0)) (by decide) rfl d_prog_6_12_24 rfl ?_
  refine m_iloadN K X3.here hx hby d_prog_6_12_25 rfl rfl ?_
  refine m_iconst K X3.here hx hby (1 : Int32) d_prog_6_12_26 rfl rfl ?_
  refine k_stZ K X3 hx hby hZ e3 A_x0 (by decide) (Nat.le_of_ble_eq_true rfl) d_prog_6_12_27 rfl fun T4 h4 X4 e4 W4 V4 => ?_
  replace V4 : Av Z h4 x0 .boolean [(.int (0 : Int32)), (.int (0 : Int32)), (.int (1 : Int32)), (.int (1 : Int32)), (.int (1 : Int32))] := V4
  have N4 := Fr.snoc X4 N0 g_x0
  exact Go.retV X4 hx hby hlk hret d_prog_6_12_28 (by decide) (by decide) (by rw [e4]; exact ⟨rfl, N4, ((Keep.refl h0 [x0]).wr W4 (Or.inl (by simp))), V4⟩)
theorem ef11_0_4 (m : MethodId) (x0 : Addr) (x1 : Int32) : entryFrame m #[(.ref x0), (.int x1)] 3 = mkF m 0 #[.val (.ref x0), .val (.int x1), .unset] [] := by first | (simp [entryFrame, mkF, argsToLocals, Value.category]; done) | rfl
set_option maxRecDepth 65536 in
set_option maxHeartbeats 40000000 in
theorem c11_0_4 (l : Launch) (Z : State) (a0 : Array Value) (hw : ∀ d ∈ tables_1, d.before a0 Z = true) (a1 : Addr) (bo : Addr) (bu : Addr) (x0 : Addr) (x1 : Addr) (x2 : Addr) (h0 : Heap) (n0 : Nat) (Z0 : n0 ≤ h0.size) (E_a1 : Exa Z h0 a1 "com/example/craterworks/craterworks/SharesStation") (F_occupied_a1 : Fld Z h0 a1 "com/example/craterworks/craterworks/SharesStation" "occupied" "[[Z" (.ref bo)) (F_uncovered_a1 : Fld Z h0 a1 "com/example/craterworks/craterworks/SharesStation" "uncovered" "[Z" (.ref bu)) (A_bo : Av Z h0 bo (.array .boolean) [(.ref x0), (.ref x1), (.ref x2)]) (A_x0 : Av Z h0 x0 .boolean [(.int (0 : Int32)), (.int (0 : Int32)), (.int (0 : Int32)), (.int (0 : Int32)), (.int (1 : Int32))]) (g_x0 : n0 ≤ x0) (ne_a1_x0 : a1 ≠ x0) (ne_bo_x0 : bo ≠ x0) :
    Con l Z (⟨"com/example/craterworks/craterworks/SharesStation", "sendHome", "(I)V"⟩ : MethodName) prog_6_method_12_code 3 none ({ frames := 0, cells := 0, slots := 0, locals := 0 } : Room) [] #[(.ref a1), (.int (0 : Int32))] h0 (fun v h L => v = none ∧ Fr n0 L ∧ Keep h0 h [x0] ∧ Av Z h x0 .boolean [(.int (0 : Int32)), (.int (0 : Int32)), (.int (0 : Int32)), (.int (1 : Int32)), (.int (1 : Int32))]) := by
  refine Con.of (plainFor_of_name pn_com_example_craterworks_craterworks_SharesStation) #[.val (.ref a1), .val (.int (0 : Int32)), .unset] (fun m => ef11_0_4 m a1 (0 : Int32)) ?_
  intro p e s m below meth c s₁ K hx hby hml hown hnm hret hlk hZ X0 e0
  have N0 := Fr.nil n0
  refine m_iconst K X0.here hx hby (3 : Int32) d_prog_6_12_0 rfl rfl ?_
  refine m_istoreN K X0.here hx hby #[.val (.ref a1), .val (.int (0 : Int32)), .val (.int (3 : Int32))] d_prog_6_12_1 rfl rfl ?_
  refine m_aloadN K X0.here hx hby d_prog_6_12_2 rfl rfl rfl ?_
  refine k_getF K X0 hx hby hZ hown (host := "") (Or.inl (hw _ (List.mem_of_getElem? (i := 38) rfl))) Via.refl e0 F_occupied_a1 d_prog_6_12_3 rfl fun T1 X1 e1 => ?_
  refine m_iloadN K X1.here hx hby d_prog_6_12_6 rfl rfl ?_
  refine k_ldR K X1 hx hby hZ e1 rfl A_bo (v := (.ref x0)) (by decide) rfl d_prog_6_12_7 rfl ?_
  refine m_iloadN K X1.here hx hby d_prog_6_12_8 rfl rfl ?_
  refine k_ldZ K X1 hx hby hZ e1 A_x0 (v := (.int (0 : Int32))) (by decide) rfl d_prog_6_12_9 rfl ?_
  refine m_ifY K X1.here hx hby (q := 19) d_prog_6_12_10 ((if0 _ _).trans (teq (by decide : (0 : Int32) = (0 : Int32))).1) (by decide) rfl ?_
  refine m_aloadN K X1.here hx hby d_prog_6_12_19 rfl rfl rfl ?_
  refine k_getF K X1 hx hby hZ hown (host := "") (Or.inl (hw _ (List.mem_of_getElem? (i := 38) rfl))) Via.refl e1 F_occupied_a1 d_prog_6_12_20 rfl fun T2 X2 e2 => ?_
  refine m_iloadN K X2.here hx hby d_prog_6_12_23 rfl rfl ?_
  refine k_ldR K X2 hx hby hZ e2 rfl A_bo (v := (.ref x0)) (by decide) rfl d_prog_6_12_24 rfl ?_
  refine m_iloadN K X2.here hx hby d_prog_6_12_25 rfl rfl ?_
  refine m_iconst K X2.here hx hby (1 : Int32) d_prog_6_12_26 rfl rfl ?_
  refine k_stZ K X2 hx hby hZ e2 A_x0 (by decide) (Nat.le_of_ble_eq_true rfl) d_prog_6_12_27 rfl fun T3 h3 X3 e3 W3 V3 => ?_
  replace V3 : Av Z h3 x0 .boolean [(.int (0 : Int32)), (.int (0 : Int32)), (.int (0 : Int32)), (.int (1 : Int32)), (.int (1 : Int32))] := V3
  have N3 := Fr.snoc X3 N0 g_x0
  exact Go.retV X3 hx hby hlk hret d_prog_6_12_28 (by decide) (by decide) (by rw [e3]; exact ⟨rfl, N3, ((Keep.refl h0 [x0]).wr W3 (Or.inl (by simp))), V3⟩)
theorem ef11_0_5 (m : MethodId) (x0 : Addr) (x1 : Int32) : entryFrame m #[(.ref x0), (.int x1)] 3 = mkF m 0 #[.val (.ref x0), .val (.int x1), .unset] [] := by first | (simp [entryFrame, mkF, argsToLocals, Value.category]; done) | rfl
set_option maxRecDepth 65536 in
set_option maxHeartbeats 40000000 in
theorem c11_0_5 (l : Launch) (Z : State) (a0 : Array Value) (hw : ∀ d ∈ tables_1, d.before a0 Z = true) (a1 : Addr) (bo : Addr) (bu : Addr) (x0 : Addr) (x1 : Addr) (x2 : Addr) (h0 : Heap) (n0 : Nat) (Z0 : n0 ≤ h0.size) (E_a1 : Exa Z h0 a1 "com/example/craterworks/craterworks/SharesStation") (F_occupied_a1 : Fld Z h0 a1 "com/example/craterworks/craterworks/SharesStation" "occupied" "[[Z" (.ref bo)) (F_uncovered_a1 : Fld Z h0 a1 "com/example/craterworks/craterworks/SharesStation" "uncovered" "[Z" (.ref bu)) (A_bo : Av Z h0 bo (.array .boolean) [(.ref x0), (.ref x1), (.ref x2)]) (A_x0 : Av Z h0 x0 .boolean [(.int (0 : Int32)), (.int (0 : Int32)), (.int (0 : Int32)), (.int (0 : Int32)), (.int (0 : Int32))]) (g_x0 : n0 ≤ x0) (ne_a1_x0 : a1 ≠ x0) (ne_bo_x0 : bo ≠ x0) :
    Con l Z (⟨"com/example/craterworks/craterworks/SharesStation", "sendHome", "(I)V"⟩ : MethodName) prog_6_method_12_code 3 none ({ frames := 0, cells := 0, slots := 0, locals := 0 } : Room) [] #[(.ref a1), (.int (0 : Int32))] h0 (fun v h L => v = none ∧ Fr n0 L ∧ Keep h0 h [x0] ∧ Av Z h x0 .boolean [(.int (0 : Int32)), (.int (0 : Int32)), (.int (0 : Int32)), (.int (1 : Int32)), (.int (0 : Int32))]) := by
  refine Con.of (plainFor_of_name pn_com_example_craterworks_craterworks_SharesStation) #[.val (.ref a1), .val (.int (0 : Int32)), .unset] (fun m => ef11_0_5 m a1 (0 : Int32)) ?_
  intro p e s m below meth c s₁ K hx hby hml hown hnm hret hlk hZ X0 e0
  have N0 := Fr.nil n0
  refine m_iconst K X0.here hx hby (3 : Int32) d_prog_6_12_0 rfl rfl ?_
  refine m_istoreN K X0.here hx hby #[.val (.ref a1), .val (.int (0 : Int32)), .val (.int (3 : Int32))] d_prog_6_12_1 rfl rfl ?_
  refine m_aloadN K X0.here hx hby d_prog_6_12_2 rfl rfl rfl ?_
  refine k_getF K X0 hx hby hZ hown (host := "") (Or.inl (hw _ (List.mem_of_getElem? (i := 38) rfl))) Via.refl e0 F_occupied_a1 d_prog_6_12_3 rfl fun T1 X1 e1 => ?_
  refine m_iloadN K X1.here hx hby d_prog_6_12_6 rfl rfl ?_
  refine k_ldR K X1 hx hby hZ e1 rfl A_bo (v := (.ref x0)) (by decide) rfl d_prog_6_12_7 rfl ?_
  refine m_iloadN K X1.here hx hby d_prog_6_12_8 rfl rfl ?_
  refine k_ldZ K X1 hx hby hZ e1 A_x0 (v := (.int (0 : Int32))) (by decide) rfl d_prog_6_12_9 rfl ?_
  refine m_ifY K X1.here hx hby (q := 19) d_prog_6_12_10 ((if0 _ _).trans (teq (by decide : (0 : Int32) = (0 : Int32))).1) (by decide) rfl ?_
  refine m_aloadN K X1.here hx hby d_prog_6_12_19 rfl rfl rfl ?_
  refine k_getF K X1 hx hby hZ hown (host := "") (Or.inl (hw _ (List.mem_of_getElem? (i := 38) rfl))) Via.refl e1 F_occupied_a1 d_prog_6_12_20 rfl fun T2 X2 e2 => ?_
  refine m_iloadN K X2.here hx hby d_prog_6_12_23 rfl rfl ?_
  refine k_ldR K X2 hx hby hZ e2 rfl A_bo (v := (.ref x0)) (by decide) rfl d_prog_6_12_24 rfl ?_
  refine m_iloadN K X2.here hx hby d_prog_6_12_25 rfl rfl ?_
  refine m_iconst K X2.here hx hby (1 : Int32) d_prog_6_12_26 rfl rfl ?_
  refine k_stZ K X2 hx hby hZ e2 A_x0 (by decide) (Nat.le_of_ble_eq_true rfl) d_prog_6_12_27 rfl fun T3 h3 X3 e3 W3 V3 => ?_
  replace V3 : Av Z h3 x0 .boolean [(.int (0 : Int32)), (.int (0 : Int32)), (.int (0 : Int32)), (.int (1 : Int32)), (.int (0 : Int32))] := V3
  have N3 := Fr.snoc X3 N0 g_x0
  exact Go.retV X3 hx hby hlk hret d_prog_6_12_28 (by decide) (by decide) (by rw [e3]; exact ⟨rfl, N3, ((Keep.refl h0 [x0]).wr W3 (Or.inl (by simp))), V3⟩)
theorem ef11_1_1 (m : MethodId) (x0 : Addr) (x1 : Int32) : entryFrame m #[(.ref x0), (.int x1)] 3 = mkF m 0 #[.val (.ref x0), .val (.int x1), .unset] [] := by first | (simp [entryFrame, mkF, argsToLocals, Value.category]; done) | rfl
set_option maxRecDepth 65536 in
set_option maxHeartbeats 40000000 in
theorem c11_1_1 (l : Launch) (Z : State) (a0 : Array Value) (hw : ∀ d ∈ tables_1, d.before a0 Z = true) (a1 : Addr) (bo : Addr) (bu : Addr) (x0 : Addr) (x1 : Addr) (x2 : Addr) (h0 : Heap) (n0 : Nat) (Z0 : n0 ≤ h0.size) (E_a1 : Exa Z h0 a1 "com/example/craterworks/craterworks/SharesStation") (F_occupied_a1 : Fld Z h0 a1 "com/example/craterworks/craterworks/SharesStation" "occupied" "[[Z" (.ref bo)) (F_uncovered_a1 : Fld Z h0 a1 "com/example/craterworks/craterworks/SharesStation" "uncovered" "[Z" (.ref bu)) (A_bo : Av Z h0 bo (.array .boolean) [(.ref x0), (.ref x1), (.ref x2)]) (A_x1 : Av Z h0 x1 .boolean [(.int (0 : Int32)), (.int (1 : Int32)), (.int (1 : Int32)), (.int (1 : Int32)), (.int (1 : Int32))]) (g_x1 : n0 ≤ x1) (ne_a1_x1 : a1 ≠ x1) (ne_bo_x1 : bo ≠ x1) :
    Con l Z (⟨"com/example/craterworks/craterworks/SharesStation", "sendHome", "(I)V"⟩ : MethodName) prog_6_method_12_code 3 none ({ frames := 0, cells := 0, slots := 0, locals := 0 } : Room) [] #[(.ref a1), (.int (1 : Int32))] h0 (fun v h L => v = none ∧ Fr n0 L ∧ Keep h0 h [x1] ∧ Av Z h x1 .boolean [(.int (1 : Int32)), (.int (1 : Int32)), (.int (1 : Int32)), (.int (1 : Int32)), (.int (1 : Int32))]) := by
  refine Con.of (plainFor_of_name pn_com_example_craterworks_craterworks_SharesStation) #[.val (.ref a1), .val (.int (1 : Int32)), .unset] (fun m => ef11_1_1 m a1 (1 : Int32)) ?_
  intro p e s m below meth c s₁ K hx hby hml hown hnm hret hlk hZ X0 e0
  have N0 := Fr.nil n0
  refine m_iconst K X0.here hx hby (3 : Int32) d_prog_6_12_0 rfl rfl ?_
  refine m_istoreN K X0.here hx hby #[.val (.ref a1), .val (.int (1 : Int32)), .val (.int (3 : Int32))] d_prog_6_12_1 rfl rfl ?_
  refine m_aloadN K X0.here hx hby d_prog_6_12_2 rfl rfl rfl ?_
  refine k_getF K X0 hx hby hZ hown (host := "") (Or.inl (hw _ (List.mem_of_getElem? (i := 38) rfl))) Via.refl e0 F_occupied_a1 d_prog_6_12_3 rfl fun T1 X1 e1 => ?_
  refine m_iloadN K X1.here hx hby d_prog_6_12_6 rfl rfl ?_
  refine k_ldR K X1 hx hby hZ e1 rfl A_bo (v := (.ref x1)) (by decide) rfl d_prog_6_12_7 rfl ?_
  refine m_iloadN K X1.here hx hby d_prog_6_12_8 rfl rfl ?_
  refine k_ldZ K X1 hx hby hZ e1 A_x1 (v := (.int (1 : Int32))) (by decide) rfl d_prog_6_12_9 rfl ?_
  refine m_ifN K X1.here hx hby (q := 13) d_prog_6_12_10 ((if0 _ _).trans (feq (by decide : ¬ ((1 : Int32) = (0 : Int32)))).1) rfl ?_
  refine m_iinc K X1.here hx hby #[.val (.ref a1), .val (.int (1 : Int32)), .val (.int (2 : Int32))] d_prog_6_12_13 rfl rfl rfl ?_
  refine m_goto K X1.here hx hby (q := 2) d_prog_6_12_16 (by decide) rfl ?_
  refine m_aloadN K X1.here hx hby d_prog_6_12_2 rfl rfl rfl ?_
  refine k_getF K X1 hx hby hZ hown (host := "") (Or.inl (hw _ (List.mem_of_getElem? (i := 38) rfl))) Via.refl e1 F_occupied_a1 d_prog_6_12_3 rfl fun T2 X2 e2 => ?_
  refine m_iloadN K X2.here hx hby d_prog_6_12_6 rfl rfl ?_
  refine k_ldR K X2 hx hby hZ e2 rfl A_bo (v := (.ref x1)) (by decide) rfl d_prog_6_12_7 rfl ?_
  refine m_iloadN K X2.here hx hby d_prog_6_12_8 rfl rfl ?_
  refine k_ldZ K X2 hx hby hZ e2 A_x1 (v := (.int (1 : Int32))) (by decide) rfl d_prog_6_12_9 rfl ?_
  refine m_ifN K X2.here hx hby (q := 13) d_prog_6_12_10 ((if0 _ _).trans (feq (by decide : ¬ ((1 : Int32) = (0 : Int32)))).1) rfl ?_
  refine m_iinc K X2.here hx hby #[.val (.ref a1), .val (.int (1 : Int32)), .val (.int (1 : Int32))] d_prog_6_12_13 rfl rfl rfl ?_
  refine m_goto K X2.here hx hby (q := 2) d_prog_6_12_16 (by decide) rfl ?_
  refine m_aloadN K X2.here hx hby d_prog_6_12_2 rfl rfl rfl ?_
  refine k_getF K X2 hx hby hZ hown (host := "") (Or.inl (hw _ (List.mem_of_getElem? (i := 38) rfl))) Via.refl e2 F_occupied_a1 d_prog_6_12_3 rfl fun T3 X3 e3 => ?_
  refine m_iloadN K X3.here hx hby d_prog_6_12_6 rfl rfl ?_
  refine k_ldR K X3 hx hby hZ e3 rfl A_bo (v := (.ref x1)) (by decide) rfl d_prog_6_12_7 rfl ?_
  refine m_iloadN K X3.here hx hby d_prog_6_12_8 rfl rfl ?_
  refine k_ldZ K X3 hx hby hZ e3 A_x1 (v := (.int (1 : Int32))) (by decide) rfl d_prog_6_12_9 rfl ?_
  refine m_ifN K X3.here hx hby (q := 13) d_prog_6_12_10 ((if0 _ _).trans (feq (by decide : ¬ ((1 : Int32) = (0 : Int32)))).1) rfl ?_
  refine m_iinc K X3.here hx hby #[.val (.ref a1), .val (.int (1 : Int32)), .val (.int (0 : Int32))] d_prog_6_12_13 rfl rfl rfl ?_
  refine m_goto K X3.here hx hby (q := 2) d_prog_6_12_16 (by decide) rfl ?_
  refine m_aloadN K X3.here hx hby d_prog_6_12_2 rfl rfl rfl ?_
  refine k_getF K X3 hx hby hZ hown (host := "") (Or.inl (hw _ (List.mem_of_getElem? (i := 38) rfl))) Via.refl e3 F_occupied_a1 d_prog_6_12_3 rfl fun T4 X4 e4 => ?_
  refine m_iloadN K X4.here hx hby d_prog_6_12_6 rfl rfl ?_
  refine k_ldR K X4 hx hby hZ e4 rfl A_bo (v := (.ref x1)) (by decide) rfl d_prog_6_12_7 rfl ?_
  refine m_iloadN K X4.here hx hby d_prog_6_12_8 rfl rfl ?_
  refine k_ldZ K X4 hx hby hZ e4 A_x1 (v := (.int (0 : Int32))) (by decide) rfl d_prog_6_12_9 rfl ?_
  refine m_ifY K X4.here hx hby (q := 19) d_prog_6_12_10 ((if0 _ _).trans (teq (by decide : (0 : Int32) = (0 : Int32))).1) (by decide) rfl ?_
  refine m_aloadN K X4.here hx hby d_prog_6_12_19 rfl rfl rfl ?_
  refine k_getF K X4 hx hby hZ hown (host := "") (Or.inl (hw _ (List.mem_of_getElem? (i := 38) rfl))) Via.refl e4 F_occupied_a1 d_prog_6_12_20 rfl fun T5 X5 e5 => ?_
  refine m_iloadN K X5.here hx hby d_prog_6_12_23 rfl rfl ?_
  refine k_ldR K X5 hx hby hZ e5 rfl A_bo (v := (.ref x1)) (by decide) rfl d_prog_6_12_24 rfl ?_
  refine m_iloadN K X5.here hx hby d_prog_6_12_25 rfl rfl ?_
  refine m_iconst K X5.here hx hby (1 : Int32) d_prog_6_12_26 rfl rfl ?_
  refine k_stZ K X5 hx hby hZ e5 A_x1 (by decide) (Nat.le_of_ble_eq_true rfl) d_prog_6_12_27 rfl fun T6 h6 X6 e6 W6 V6 => ?_
  replace V6 : Av Z h6 x1 .boolean [(.int (1 : Int32)), (.int (1 : Int32)), (.int (1 : Int32)), (.int (1 : Int32)), (.int (1 : Int32))] := V6
  have N6 := Fr.snoc X6 N0 g_x1
  exact Go.retV X6 hx hby hlk hret d_prog_6_12_28 (by decide) (by decide) (by rw [e6]; exact ⟨rfl, N6, ((Keep.refl h0 [x1]).wr W6 (Or.inl (by simp))), V6⟩)
theorem ef11_1_2 (m : MethodId) (x0 : Addr) (x1 : Int32) : entryFrame m #[(.ref x0), (.int x1)] 3 = mkF m 0 #[.val (.ref x0), .val (.int x1), .unset] [] := by first | (simp [entryFrame, mkF, argsToLocals, Value.category]; done) | rfl
set_option maxRecDepth 65536 in
set_option maxHeartbeats 40000000 in
theorem c11_1_2 (l : Launch) (Z : State) (a0 : Array Value) (hw : ∀ d ∈ tables_1, d.before a0 Z = true) (a1 : Addr) (bo : Addr) (bu : Addr) (x0 : Addr) (x1 : Addr) (x2 : Addr) (h0 : Heap) (n0 : Nat) (Z0 : n0 ≤ h0.size) (E_a1 : Exa Z h0 a1 "com/example/craterworks/craterworks/SharesStation") (F_occupied_a1 : Fld Z h0 a1 "com/example/craterworks/craterworks/SharesStation" "occupied" "[[Z" (.ref bo)) (F_uncovered_a1 : Fld Z h0 a1 "com/example/craterworks/craterworks/SharesStation" "uncovered" "[Z" (.ref bu)) (A_bo : Av Z h0 bo (.array .boolean) [(.ref x0), (.ref x1), (.ref x2)]) (A_x1 : Av Z h0 x1 .boolean [(.int (0 : Int32)), (.int (0 : Int32)), (.int (1 : Int32)), (.int (1 : Int32)), (.int (1 : Int32))]) (g_x1 : n0 ≤ x1) (ne_a1_x1 : a1 ≠ x1) (ne_bo_x1 : bo ≠ x1) :
    Con l Z (⟨"com/example/craterworks/craterworks/SharesStation", "sendHome", "(I)V"⟩ : MethodName) prog_6_method_12_code 3 none ({ frames := 0, cells := 0, slots := 0, locals := 0 } : Room) [] #[(.ref a1), (.int (1 : Int32))] h0 (fun v h L => v = none ∧ Fr n0 L ∧ Keep h0 h [x1] ∧ Av Z h x1 .boolean [(.int (0 : Int32)), (.int (1 : Int32)), (.int (1 : Int32)), (.int (1 : Int32)), (.int (1 : Int32))]) := by
  refine Con.of (plainFor_of_name pn_com_example_craterworks_craterworks_SharesStation) #[.val (.ref a1), .val (.int (1 : Int32)), .unset] (fun m => ef11_1_2 m a1 (1 : Int32)) ?_
  intro p e s m below meth c s₁ K hx hby hml hown hnm hret hlk hZ X0 e0
  have N0 := Fr.nil n0
  refine m_iconst K X0.here hx hby (3 : Int32) d_prog_6_12_0 rfl rfl ?_
  refine m_istoreN K X0.here hx hby #[.val (.ref a1), .val (.int (1 : Int32)), .val (.int (3 : Int32))] d_prog_6_12_1 rfl rfl ?_
  refine m_aloadN K X0.here hx hby d_prog_6_12_2 rfl rfl rfl ?_
  refine k_getF K X0 hx hby hZ hown (host := "") (Or.inl (hw _ (List.mem_of_getElem? (i := 38) rfl))) Via.refl e0 F_occupied_a1 d_prog_6_12_3 rfl fun T1 X1 e1 => ?_
  refine m_iloadN K X1.here hx hby d_prog_6_12_6 rfl rfl ?_
  refine k_ldR K X1 hx hby hZ e1 rfl A_bo (v := (.ref x1)) (by decide) rfl d_prog_6_12_7 rfl ?_
  refine m_iloadN K X1.here hx hby d_prog_6_12_8 rfl rfl ?_
  refine k_ldZ K X1 hx hby hZ e1 A_x1 (v := (.int (1 : Int32))) (by decide) rfl d_prog_6_12_9 rfl ?_
  refine m_ifN K X1.here hx hby (q := 13) d_prog_6_12_10 ((if0 _ _).trans (feq (by decide : ¬ ((1 : Int32) = (0 : Int32)))).1) rfl ?_
  refine m_iinc K X1.here hx hby #[.val (.ref a1), .val (.int (1 : Int32)), .val (.int (2 : Int32))] d_prog_6_12_13 rfl rfl rfl ?_
  refine m_goto K X1.here hx hby (q := 2) d_prog_6_12_16 (by decide) rfl ?_
  refine m_aloadN K X1.here hx hby d_prog_6_12_2 rfl rfl rfl ?_
  refine k_getF K X1 hx hby hZ hown (host := "") (Or.inl (hw _ (List.mem_of_getElem? (i := 38) rfl))) Via.refl e1 F_occupied_a1 d_prog_6_12_3 rfl fun T2 X2 e2 => ?_
  refine m_iloadN K X2.here hx hby d_prog_6_12_6 rfl rfl ?_
  refine k_ldR K X2 hx hby hZ e2 rfl A_bo (v := (.ref x1)) (by decide) rfl d_prog_6_12_7 rfl ?_
  refine m_iloadN K X2.here hx hby d_prog_6_12_8 rfl rfl ?_
  refine k_ldZ K X2 hx hby hZ e2 A_x1 (v := (.int (1 : Int32))) (by decide) rfl d_prog_6_12_9 rfl ?_
  refine m_ifN K X2.here hx hby (q := 13) d_prog_6_12_10 ((if0 _ _).trans (feq (by decide : ¬ ((1 : Int32) = (0 : Int32)))).1) rfl ?_
  refine m_iinc K X2.here hx hby #[.val (.ref a1), .val (.int (1 : Int32)), .val (.int (1 : Int32))] d_prog_6_12_13 rfl rfl rfl ?_
  refine m_goto K X2.here hx hby (q := 2) d_prog_6_12_16 (by decide) rfl ?_
  refine m_aloadN K X2.here hx hby d_prog_6_12_2 rfl rfl rfl ?_
  refine k_getF K X2 hx hby hZ hown (host := "") (Or.inl (hw _ (List.mem_of_getElem? (i := 38) rfl))) Via.refl e2 F_occupied_a1 d_prog_6_12_3 rfl fun T3 X3 e3 => ?_
  refine m_iloadN K X3.here hx hby d_prog_6_12_6 rfl rfl ?_
  refine k_ldR K X3 hx hby hZ e3 rfl A_bo (v := (.ref x1)) (by decide) rfl d_prog_6_12_7 rfl ?_
  refine m_iloadN K X3.here hx hby d_prog_6_12_8 rfl rfl ?_
  refine k_ldZ K X3 hx hby hZ e3 A_x1 (v := (.int (0 : Int32))) (by decide) rfl d_prog_6_12_9 rfl ?_
  refine m_ifY K X3.here hx hby (q := 19) d_prog_6_12_10 ((if0 _ _).trans (teq (by decide : (0 : Int32) = (0 : Int32))).1) (by decide) rfl ?_
  refine m_aloadN K X3.here hx hby d_prog_6_12_19 rfl rfl rfl ?_
  refine k_getF K X3 hx hby hZ hown (host := "") (Or.inl (hw _ (List.mem_of_getElem? (i := 38) rfl))) Via.refl e3 F_occupied_a1 d_prog_6_12_20 rfl fun T4 X4 e4 => ?_
  refine m_iloadN K X4.here hx hby d_prog_6_12_23 rfl rfl ?_
  refine k_ldR K X4 hx hby hZ e4 rfl A_bo (v := (.ref x1)) (by decide) rfl d_prog_6_12_24 rfl ?_
  refine m_iloadN K X4.here hx hby d_prog_6_12_25 rfl rfl ?_
  refine m_iconst K X4.here hx hby (1 : Int32) d_prog_6_12_26 rfl rfl ?_
  refine k_stZ K X4 hx hby hZ e4 A_x1 (by decide) (Nat.le_of_ble_eq_true rfl) d_prog_6_12_27 rfl fun T5 h5 X5 e5 W5 V5 => ?_
  replace V5 : Av Z h5 x1 .boolean [(.int (0 : Int32)), (.int (1 : Int32)), (.int (1 : Int32)), (.int (1 : Int32)), (.int (1 : Int32))] := V5
  have N5 := Fr.snoc X5 N0 g_x1
  exact Go.retV X5 hx hby hlk hret d_prog_6_12_28 (by decide) (by decide) (by rw [e5]; exact ⟨rfl, N5, ((Keep.refl h0 [x1]).wr W5 (Or.inl (by simp))), V5⟩)
theorem ef11_1_3 (m : MethodId) (x0 : Addr) (x1 : Int32) : entryFrame m #[(.ref x0), (.int x1)] 3 = mkF m 0 #[.val (.ref x0), .val (.int x1), .unset] [] := by first | (simp [entryFrame, mkF, argsToLocals, Value.category]; done) | rfl
set_option maxRecDepth 65536 in
set_option maxHeartbeats 40000000 in
theorem c11_1_3 (l : Launch) (Z : State) (a0 : Array Value) (hw : ∀ d ∈ tables_1, d.before a0 Z = true) (a1 : Addr) (bo : Addr) (bu : Addr) (x0 : Addr) (x1 : Addr) (x2 : Addr) (h0 : Heap) (n0 : Nat) (Z0 : n0 ≤ h0.size) (E_a1 : Exa Z h0 a1 "com/example/craterworks/craterworks/SharesStation") (F_occupied_a1 : Fld Z h0 a1 "com/example/craterworks/craterworks/SharesStation" "occupied" "[[Z" (.ref bo)) (F_uncovered_a1 : Fld Z h0 a1 "com/example/craterworks/craterworks/SharesStation" "uncovered" "[Z" (.ref bu)) (A_bo : Av Z h0 bo (.array .boolean) [(.ref x0), (.ref x1), (.ref x2)]) (A_x1 : Av Z h0 x1 .boolean [(.int (0 : Int32)), (.int (0 : Int32)), (.int (0 : Int32)), (.int (1 : Int32)), (.int (1 : Int32))]) (g_x1 : n0 ≤ x1) (ne_a1_x1 : a1 ≠ x1) (ne_bo_x1 : bo ≠ x1) :
    Con l Z (⟨"com/example/craterworks/craterworks/SharesStation", "sendHome", "(I)V"⟩ : MethodName) prog_6_method_12_code 3 none ({ frames := 0, cells := 0, slots := 0, locals := 0 } : Room) [] #[(.ref a1), (.int (1 : Int32))] h0 (fun v h L => v = none ∧ Fr n0 L ∧ Keep h0 h [x1] ∧ Av Z h x1 .boolean [(.int (0 : Int32)), (.int (0 : Int32)), (.int (1 : Int32)), (.int (1 : Int32)), (.int (1 : Int32))]) := by
  refine Con.of (plainFor_of_name pn_com_example_craterworks_craterworks_SharesStation) #[.val (.ref a1), .val (.int (1 : Int32)), .unset] (fun m => ef11_1_3 m a1 (1 : Int32)) ?_
  intro p e s m below meth c s₁ K hx hby hml hown hnm hret hlk hZ X0 e0
  have N0 := Fr.nil n0
  refine m_iconst K X0.here hx hby (3 : Int32) d_prog_6_12_0 rfl rfl ?_
  refine m_istoreN K X0.here hx hby #[.val (.ref a1), .val (.int (1 : Int32)), .val (.int (3 : Int32))] d_prog_6_12_1 rfl rfl ?_
  refine m_aloadN K X0.here hx hby d_prog_6_12_2 rfl rfl rfl ?_
  refine k_getF K X0 hx hby hZ hown (host := "") (Or.inl (hw _ (List.mem_of_getElem? (i := 38) rfl))) Via.refl e0 F_occupied_a1 d_prog_6_12_3 rfl fun T1 X1 e1 => ?_
  refine m_iloadN K X1.here hx hby d_prog_6_12_6 rfl rfl ?_
  refine k_ldR K X1 hx hby hZ e1 rfl A_bo (v := (.ref x1)) (by decide) rfl d_prog_6_12_7 rfl ?_
  refine m_iloadN K X1.here hx hby d_prog_6_12_8 rfl rfl ?_
  refine k_ldZ K X1 hx hby hZ e1 A_x1 (v := (.int (1 : Int32))) (by decide) rfl d_prog_6_12_9 rfl ?_
  refine m_ifN K X1.here hx hby (q := 13) d_prog_6_12_10 ((if0 _ _).trans (feq (by decide : ¬ ((1 : Int32) = (0 : Int32)))).1) rfl ?_
  refine m_iinc K X1.here hx hby #[.val (.ref a1), .val (.int (1 : Int32)), .val (.int (2 : Int32))] d_prog_6_12_13 rfl rfl rfl ?_
  refine m_goto K X1.here hx hby (q := 2) d_prog_6_12_16 (by decide) rfl ?_
  refine m_aloadN K X1.here hx hby d_prog_6_12_2 rfl rfl rfl ?_
  refine k_getF K X1 hx hby hZ hown (host := "") (Or.inl (hw _ (List.mem_of_getElem? (i := 38) rfl))) Via.refl e1 F_occupied_a1 d_prog_6_12_3 rfl fun T2 X2 e2 => ?_
  refine m_iloadN K X2.here hx hby d_prog_6_12_6 rfl rfl ?_
  refine k_ldR K X2 hx hby hZ e2 rfl A_bo (v := (.ref x1)) (by decide) rfl d_prog_6_12_7 rfl ?_
  refine m_iloadN K X2.here hx hby d_prog_6_12_8 rfl rfl ?_
  refine k_ldZ K X2 hx hby hZ e2 A_x1 (v := (.int (0 : Int32))) (by decide) rfl d_prog_6_12_9 rfl ?_
  refine m_ifY K X2.here hx hby (q := 19) d_prog_6_12_10 ((if0 _ _).trans (teq (by decide : (0 : Int32) = (0 : Int32))).1) (by decide) rfl ?_
  refine m_aloadN K X2.here hx hby d_prog_6_12_19 rfl rfl rfl ?_
  refine k_getF K X2 hx hby hZ hown (host := "") (Or.inl (hw _ (List.mem_of_getElem? (i := 38) rfl))) Via.refl e2 F_occupied_a1 d_prog_6_12_20 rfl fun T3 X3 e3 => ?_
  refine m_iloadN K X3.here hx hby d_prog_6_12_23 rfl rfl ?_
  refine k_ldR K X3 hx hby hZ e3 rfl A_bo (v := (.ref x1)) (by decide) rfl d_prog_6_12_24 rfl ?_
  refine m_iloadN K X3.here hx hby d_prog_6_12_25 rfl rfl ?_
  refine m_iconst K X3.here hx hby (1 : Int32) d_prog_6_12_26 rfl rfl ?_
  refine k_stZ K X3 hx hby hZ e3 A_x1 (by decide) (Nat.le_of_ble_eq_true rfl) d_prog_6_12_27 rfl fun T4 h4 X4 e4 W4 V4 => ?_
  replace V4 : Av Z h4 x1 .boolean [(.int (0 : Int32)), (.int (0 : Int32)), (.int (1 : Int32)), (.int (1 : Int32)), (.int (1 : Int32))] := V4
  have N4 := Fr.snoc X4 N0 g_x1
  exact Go.retV X4 hx hby hlk hret d_prog_6_12_28 (by decide) (by decide) (by rw [e4]; exact ⟨rfl, N4, ((Keep.refl h0 [x1]).wr W4 (Or.inl (by simp))), V4⟩)
theorem ef11_1_4 (m : MethodId) (x0 : Addr) (x1 : Int32) : entryFrame m #[(.ref x0), (.int x1)] 3 = mkF m 0 #[.val (.ref x0), .val (.int x1), .unset] [] := by first | (simp [entryFrame, mkF, argsToLocals, Value.category]; done) | rfl
set_option maxRecDepth 65536 in
set_option maxHeartbeats 40000000 in
theorem c11_1_4 (l : Launch) (Z : State) (a0 : Array Value) (hw : ∀ d ∈ tables_1, d.before a0 Z = true) (a1 : Addr) (bo : Addr) (bu : Addr) (x0 : Addr) (x1 : Addr) (x2 : Addr) (h0 : Heap) (n0 : Nat) (Z0 : n0 ≤ h0.size) (E_a1 : Exa Z h0 a1 "com/example/craterworks/craterworks/SharesStation") (F_occupied_a1 : Fld Z h0 a1 "com/example/craterworks/craterworks/SharesStation" "occupied" "[[Z" (.ref bo)) (F_uncovered_a1 : Fld Z h0 a1 "com/example/craterworks/craterworks/SharesStation" "uncovered" "[Z" (.ref bu)) (A_bo : Av Z h0 bo (.array .boolean) [(.ref x0), (.ref x1), (.ref x2)]) (A_x1 : Av Z h0 x1 .boolean [(.int (0 : Int32)), (.int (0 : Int32)), (.int (0 : Int32)), (.int (0 : Int32)), (.int (1 : Int32))]) (g_x1 : n0 ≤ x1) (ne_a1_x1 : a1 ≠ x1) (ne_bo_x1 : bo ≠ x1) :
    Con l Z (⟨"com/example/craterworks/craterworks/SharesStation", "sendHome", "(I)V"⟩ : MethodName) prog_6_method_12_code 3 none ({ frames := 0, cells := 0, slots := 0, locals := 0 } : Room) [] #[(.ref a1), (.int (1 : Int32))] h0 (fun v h L => v = none ∧ Fr n0 L ∧ Keep h0 h [x1] ∧ Av Z h x1 .boolean [(.int (0 : Int32)), (.int (0 : Int32)), (.int (0 : Int32)), (.int (1 : Int32)), (.int (1 : Int32))]) := by
  refine Con.of (plainFor_of_name pn_com_example_craterworks_craterworks_SharesStation) #[.val (.ref a1), .val (.int (1 : Int32)), .unset] (fun m => ef11_1_4 m a1 (1 : Int32)) ?_
  intro p e s m below meth c s₁ K hx hby hml hown hnm hret hlk hZ X0 e0
  have N0 := Fr.nil n0
  refine m_iconst K X0.here hx hby (3 : Int32) d_prog_6_12_0 rfl rfl ?_
  refine m_istoreN K X0.here hx hby #[.val (.ref a1), .val (.int (1 : Int32)), .val (.int (3 : Int32))] d_prog_6_12_1 rfl rfl ?_
  refine m_aloadN K X0.here hx hby d_prog_6_12_2 rfl rfl rfl ?_
  refine k_getF K X0 hx hby hZ hown (host := "") (Or.inl (hw _ (List.mem_of_getElem? (i := 38) rfl))) Via.refl e0 F_occupied_a1 d_prog_6_12_3 rfl fun T1 X1 e1 => ?_
  refine m_iloadN K X1.here hx hby d_prog_6_12_6 rfl rfl ?_
  refine k_ldR K X1 hx hby hZ e1 rfl A_bo (v := (.ref x1)) (by decide) rfl d_prog_6_12_7 rfl ?_
  refine m_iloadN K X1.here hx hby d_prog_6_12_8 rfl rfl ?_
  refine k_ldZ K X1 hx hby hZ e1 A_x1 (v := (.int (0 : Int32))) (by decide) rfl d_prog_6_12_9 rfl ?_
  refine m_ifY K X1.here hx hby (q := 19) d_prog_6_12_10 ((if0 _ _).trans (teq (by decide : (0 : Int32) = (0 : Int32))).1) (by decide) rfl ?_
  refine m_aloadN K X1.here hx hby d_prog_6_12_19 rfl rfl rfl ?_
  refine k_getF K X1 hx hby hZ hown (host := "") (Or.inl (hw _ (List.mem_of_getElem? (i := 38) rfl))) Via.refl e1 F_occupied_a1 d_prog_6_12_20 rfl fun T2 X2 e2 => ?_
  refine m_iloadN K X2.here hx hby d_prog_6_12_23 rfl rfl ?_
  refine k_ldR K X2 hx hby hZ e2 rfl A_bo (v := (.ref x1)) (by decide) rfl d_prog_6_12_24 rfl ?_
  refine m_iloadN K X2.here hx hby d_prog_6_12_25 rfl rfl ?_
  refine m_iconst K X2.here hx hby (1 : Int32) d_prog_6_12_26 rfl rfl ?_
  refine k_stZ K X2 hx hby hZ e2 A_x1 (by decide) (Nat.le_of_ble_eq_true rfl) d_prog_6_12_27 rfl fun T3 h3 X3 e3 W3 V3 => ?_
  replace V3 : Av Z h3 x1 .boolean [(.int (0 : Int32)), (.int (0 : Int32)), (.int (0 : Int32)), (.int (1 : Int32)), (.int (1 : Int32))] := V3
  have N3 := Fr.snoc X3 N0 g_x1
  exact Go.retV X3 hx hby hlk hret d_prog_6_12_28 (by decide) (by decide) (by rw [e3]; exact ⟨rfl, N3, ((Keep.refl h0 [x1]).wr W3 (Or.inl (by simp))), V3⟩)
theorem ef11_1_5 (m : MethodId) (x0 : Addr) (x1 : Int32) : entryFrame m #[(.ref x0), (.int x1)] 3 = mkF m 0 #[.val (.ref x0), .val (.int x1), .unset] [] := by first | (simp [entryFrame, mkF, argsToLocals, Value.category]; done) | rfl
set_option maxRecDepth 65536 in
set_option maxHeartbeats 40000000 in
theorem c11_1_5 (l : Launch) (Z : State) (a0 : Array Value) (hw : ∀ d ∈ tables_1, d.before a0 Z = true) (a1 : Addr) (bo : Addr) (bu : Addr) (x0 : Addr) (x1 : Addr) (x2 : Addr) (h0 : Heap) (n0 : Nat) (Z0 : n0 ≤ h0.size) (E_a1 : Exa Z h0 a1 "com/example/craterworks/craterworks/SharesStation") (F_occupied_a1 : Fld Z h0 a1 "com/example/craterworks/craterworks/SharesStation" "occupied" "[[Z" (.ref bo)) (F_uncovered_a1 : Fld Z h0 a1 "com/example/craterworks/craterworks/SharesStation" "uncovered" "[Z" (.ref bu)) (A_bo : Av Z h0 bo (.array .boolean) [(.ref x0), (.ref x1), (.ref x2)]) (A_x1 : Av Z h0 x1 .boolean [(.int (0 : Int32)), (.int (0 : Int32)), (.int (0 : Int32)), (.int (0 : Int32)), (.int (0 : Int32))]) (g_x1 : n0 ≤ x1) (ne_a1_x1 : a1 ≠ x1) (ne_bo_x1 : bo ≠ x1) :
    Con l Z (⟨"com/example/craterworks/craterworks/SharesStation", "sendHome", "(I)V"⟩ : MethodName) prog_6_method_12_code 3 none ({ frames := 0, cells := 0, slots := 0, locals := 0 } : Room) [] #[(.ref a1), (.int (1 : Int32))] h0 (fun v h L => v = none ∧ Fr n0 L ∧ Keep h0 h [x1] ∧ Av Z h x1 .boolean [(.int (0 : Int32)), (.int (0 : Int32)), (.int (0 : Int32)), (.int (1 : Int32)), (.int (0 : Int32))]) := by
  refine Con.of (plainFor_of_name pn_com_example_craterworks_craterworks_SharesStation) #[.val (.ref a1), .val (.int (1 : Int32)), .unset] (fun m => ef11_1_5 m a1 (1 : Int32)) ?_
  intro p e s m below meth c s₁ K hx hby hml hown hnm hret hlk hZ X0 e0
  have N0 := Fr.nil n0
  refine m_iconst K X0.here hx hby (3 : Int32) d_prog_6_12_0 rfl rfl ?_
  refine m_istoreN K X0.here hx hby #[.val (.ref a1), .val (.int (1 : Int32)), .val (.int (3 : Int32))] d_prog_6_12_1 rfl rfl ?_
  refine m_aloadN K X0.here hx hby d_prog_6_12_2 rfl rfl rfl ?_
  refine k_getF K X0 hx hby hZ hown (host := "") (Or.inl (hw _ (List.mem_of_getElem? (i := 38) rfl))) Via.refl e0 F_occupied_a1 d_prog_6_12_3 rfl fun T1 X1 e1 => ?_
  refine m_iloadN K X1.here hx hby d_prog_6_12_6 rfl rfl ?_
  refine k_ldR K X1 hx hby hZ e1 rfl A_bo (v := (.ref x1)) (by decide) rfl d_prog_6_12_7 rfl ?_
  refine m_iloadN K X1.here hx hby d_prog_6_12_8 rfl rfl ?_
  refine k_ldZ K X1 hx hby hZ e1 A_x1 (v := (.int (0 : Int32))) (by decide) rfl d_prog_6_12_9 rfl ?_
  refine m_ifY K X1.here hx hby (q := 19) d_prog_6_12_10 ((if0 _ _).trans (teq (by decide : (0 : Int32) = (0 : Int32))).1) (by decide) rfl ?_
  refine m_aloadN K X1.here hx hby d_prog_6_12_19 rfl rfl rfl ?_
  refine k_getF K X1 hx hby hZ hown (host := "") (Or.inl (hw _ (List.mem_of_getElem? (i := 38) rfl))) Via.refl e1 F_occupied_a1 d_prog_6_12_20 rfl fun T2 X2 e2 => ?_
  refine m_iloadN K X2.here hx hby d_prog_6_12_23 rfl rfl ?_
  refine k_ldR K X2 hx hby hZ e2 rfl A_bo (v := (.ref x1)) (by decide) rfl d_prog_6_12_24 rfl ?_
  refine m_iloadN K X2.here hx hby d_prog_6_12_25 rfl rfl ?_
  refine m_iconst K X2.here hx hby (1 : Int32) d_prog_6_12_26 rfl rfl ?_
  refine k_stZ K X2 hx hby hZ e2 A_x1 (by decide) (Nat.le_of_ble_eq_true rfl) d_prog_6_12_27 rfl fun T3 h3 X3 e3 W3 V3 => ?_
  replace V3 : Av Z h3 x1 .boolean [(.int (0 : Int32)), (.int (0 : Int32)), (.int (0 : Int32)), (.int (1 : Int32)), (.int (0 : Int32))] := V3
  have N3 := Fr.snoc X3 N0 g_x1
  exact Go.retV X3 hx hby hlk hret d_prog_6_12_28 (by decide) (by decide) (by rw [e3]; exact ⟨rfl, N3, ((Keep.refl h0 [x1]).wr W3 (Or.inl (by simp))), V3⟩)
theorem ef11_2_1 (m : MethodId) (x0 : Addr) (x1 : Int32) : entryFrame m #[(.ref x0), (.int x1)] 3 = mkF m 0 #[.val (.ref x0), .val (.int x1), .unset] [] := by first | (simp [entryFrame, mkF, argsToLocals, Value.category]; done) | rfl
set_option maxRecDepth 65536 in
set_option maxHeartbeats 40000000 in
theorem c11_2_1 (l : Launch) (Z : State) (a0 : Array Value) (hw : ∀ d ∈ tables_1, d.before a0 Z = true) (a1 : Addr) (bo : Addr) (bu : Addr) (x0 : Addr) (x1 : Addr) (x2 : Addr) (h0 : Heap) (n0 : Nat) (Z0 : n0 ≤ h0.size) (E_a1 : Exa Z h0 a1 "com/example/craterworks/craterworks/SharesStation") (F_occupied_a1 : Fld Z h0 a1 "com/example/craterworks/craterworks/SharesStation" "occupied" "[[Z" (.ref bo)) (F_uncovered_a1 : Fld Z h0 a1 "com/example/craterworks/craterworks/SharesStation" "uncovered" "[Z" (.ref bu)) (A_bo : Av Z h0 bo (.array .boolean) [(.ref x0), (.ref x1), (.ref x2)]) (A_x2 : Av Z h0 x2 .boolean [(.int (0 : Int32)), (.int (1 : Int32)), (.int (1 : Int32)), (.int (1 : Int32)), (.int (1 : Int32))]) (g_x2 : n0 ≤ x2) (ne_a1_x2 : a1 ≠ x2) (ne_bo_x2 : bo ≠ x2) :
    Con l Z (⟨"com/example/craterworks/craterworks/SharesStation", "sendHome", "(I)V"⟩ : MethodName) prog_6_method_12_code 3 none ({ frames := 0, cells := 0, slots := 0, locals := 0 } : Room) [] #[(.ref a1), (.int (2 : Int32))] h0 (fun v h L => v = none ∧ Fr n0 L ∧ Keep h0 h [x2] ∧ Av Z h x2 .boolean [(.int (1 : Int32)), (.int (1 : Int32)), (.int (1 : Int32)), (.int (1 : Int32)), (.int (1 : Int32))]) := by
  refine Con.of (plainFor_of_name pn_com_example_craterworks_craterworks_SharesStation) #[.val (.ref a1), .val (.int (2 : Int32)), .unset] (fun m => ef11_2_1 m a1 (2 : Int32)) ?_
  intro p e s m below meth c s₁ K hx hby hml hown hnm hret hlk hZ X0 e0
  have N0 := Fr.nil n0
  refine m_iconst K X0.here hx hby (3 : Int32) d_prog_6_12_0 rfl rfl ?_
  refine m_istoreN K X0.here hx hby #[.val (.ref a1), .val (.int (2 : Int32)), .val (.int (3 : Int32))] d_prog_6_12_1 rfl rfl ?_
  refine m_aloadN K X0.here hx hby d_prog_6_12_2 rfl rfl rfl ?_
  refine k_getF K X0 hx hby hZ hown (host := "") (Or.inl (hw _ (List.mem_of_getElem? (i := 38) rfl))) Via.refl e0 F_occupied_a1 d_prog_6_12_3 rfl fun T1 X1 e1 => ?_
  refine m_iloadN K X1.here hx hby d_prog_6_12_6 rfl rfl ?_
  refine k_ldR K X1 hx hby hZ e1 rfl A_bo (v := (.ref x2)) (by decide) rfl d_prog_6_12_7 rfl ?_
  refine m_iloadN K X1.here hx hby d_prog_6_12_8 rfl rfl ?_
  refine k_ldZ K X1 hx hby hZ e1 A_x2 (v := (.int (1 : Int32))) (by decide) rfl d_prog_6_12_9 rfl ?_
  refine m_ifN K X1.here hx hby (q := 13) d_prog_6_12_10 ((if0 _ _).trans (feq (by decide : ¬ ((1 : Int32) = (0 : Int32)))).1) rfl ?_
  refine m_iinc K X1.here hx hby #[.val (.ref a1), .val (.int (2 : Int32)), .val (.int (2 : Int32))] d_prog_6_12_13 rfl rfl rfl ?_
  refine m_goto K X1.here hx hby (q := 2) d_prog_6_12_16 (by decide) rfl ?_
  refine m_aloadN K X1.here hx hby d_prog_6_12_2 rfl rfl rfl ?_
  refine k_getF K X1 hx hby hZ hown (host := "") (Or.inl (hw _ (List.mem_of_getElem? (i := 38) rfl))) Via.refl e1 F_occupied_a1 d_prog_6_12_3 rfl fun T2 X2 e2 => ?_
  refine m_iloadN K X2.here hx hby d_prog_6_12_6 rfl rfl ?_
  refine k_ldR K X2 hx hby hZ e2 rfl A_bo (v := (.ref x2)) (by decide) rfl d_prog_6_12_7 rfl ?_
  refine m_iloadN K X2.here hx hby d_prog_6_12_8 rfl rfl ?_
  refine k_ldZ K X2 hx hby hZ e2 A_x2 (v := (.int (1 : Int32))) (by decide) rfl d_prog_6_12_9 rfl ?_
  refine m_ifN K X2.here hx hby (q := 13) d_prog_6_12_10 ((if0 _ _).trans (feq (by decide : ¬ ((1 : Int32) = (0 : Int32)))).1) rfl ?_
  refine m_iinc K X2.here hx hby #[.val (.ref a1), .val (.int (2 : Int32)), .val (.int (1 : Int32))] d_prog_6_12_13 rfl rfl rfl ?_
  refine m_goto K X2.here hx hby (q := 2) d_prog_6_12_16 (by decide) rfl ?_
  refine m_aloadN K X2.here hx hby d_prog_6_12_2 rfl rfl rfl ?_
  refine k_getF K X2 hx hby hZ hown (host := "") (Or.inl (hw _ (List.mem_of_getElem? (i := 38) rfl))) Via.refl e2 F_occupied_a1 d_prog_6_12_3 rfl fun T3 X3 e3 => ?_
  refine m_iloadN K X3.here hx hby d_prog_6_12_6 rfl rfl ?_
  refine k_ldR K X3 hx hby hZ e3 rfl A_bo (v := (.ref x2)) (by decide) rfl d_prog_6_12_7 rfl ?_
  refine m_iloadN K X3.here hx hby d_prog_6_12_8 rfl rfl ?_
  refine k_ldZ K X3 hx hby hZ e3 A_x2 (v := (.int (1 : Int32))) (by decide) rfl d_prog_6_12_9 rfl ?_
  refine m_ifN K X3.here hx hby (q := 13) d_prog_6_12_10 ((if0 _ _).trans (feq (by decide : ¬ ((1 : Int32) = (0 : Int32)))).1) rfl ?_
  refine m_iinc K X3.here hx hby #[.val (.ref a1), .val (.int (2 : Int32)), .val (.int (0 : Int32))] d_prog_6_12_13 rfl rfl rfl ?_
  refine m_goto K X3.here hx hby (q := 2) d_prog_6_12_16 (by decide) rfl ?_
  refine m_aloadN K X3.here hx hby d_prog_6_12_2 rfl rfl rfl ?_
  refine k_getF K X3 hx hby hZ hown (host := "") (Or.inl (hw _ (List.mem_of_getElem? (i := 38) rfl))) Via.refl e3 F_occupied_a1 d_prog_6_12_3 rfl fun T4 X4 e4 => ?_
  refine m_iloadN K X4.here hx hby d_prog_6_12_6 rfl rfl ?_
  refine k_ldR K X4 hx hby hZ e4 rfl A_bo (v := (.ref x2)) (by decide) rfl d_prog_6_12_7 rfl ?_
  refine m_iloadN K X4.here hx hby d_prog_6_12_8 rfl rfl ?_
  refine k_ldZ K X4 hx hby hZ e4 A_x2 (v := (.int (0 : Int32))) (by decide) rfl d_prog_6_12_9 rfl ?_
  refine m_ifY K X4.here hx hby (q := 19) d_prog_6_12_10 ((if0 _ _).trans (teq (by decide : (0 : Int32) = (0 : Int32))).1) (by decide) rfl ?_
  refine m_aloadN K X4.here hx hby d_prog_6_12_19 rfl rfl rfl ?_
  refine k_getF K X4 hx hby hZ hown (host := "") (Or.inl (hw _ (List.mem_of_getElem? (i := 38) rfl))) Via.refl e4 F_occupied_a1 d_prog_6_12_20 rfl fun T5 X5 e5 => ?_
  refine m_iloadN K X5.here hx hby d_prog_6_12_23 rfl rfl ?_
  refine k_ldR K X5 hx hby hZ e5 rfl A_bo (v := (.ref x2)) (by decide) rfl d_prog_6_12_24 rfl ?_
  refine m_iloadN K X5.here hx hby d_prog_6_12_25 rfl rfl ?_
  refine m_iconst K X5.here hx hby (1 : Int32) d_prog_6_12_26 rfl rfl ?_
  refine k_stZ K X5 hx hby hZ e5 A_x2 (by decide) (Nat.le_of_ble_eq_true rfl) d_prog_6_12_27 rfl fun T6 h6 X6 e6 W6 V6 => ?_
  replace V6 : Av Z h6 x2 .boolean [(.int (1 : Int32)), (.int (1 : Int32)), (.int (1 : Int32)), (.int (1 : Int32)), (.int (1 : Int32))] := V6
  have N6 := Fr.snoc X6 N0 g_x2
  exact Go.retV X6 hx hby hlk hret d_prog_6_12_28 (by decide) (by decide) (by rw [e6]; exact ⟨rfl, N6, ((Keep.refl h0 [x2]).wr W6 (Or.inl (by simp))), V6⟩)
theorem ef11_2_2 (m : MethodId) (x0 : Addr) (x1 : Int32) : entryFrame m #[(.ref x0), (.int x1)] 3 = mkF m 0 #[.val (.ref x0), .val (.int x1), .unset] [] := by first | (simp [entryFrame, mkF, argsToLocals, Value.category]; done) | rfl
set_option maxRecDepth 65536 in
set_option maxHeartbeats 40000000 in
theorem c11_2_2 (l : Launch) (Z : State) (a0 : Array Value) (hw : ∀ d ∈ tables_1, d.before a0 Z = true) (a1 : Addr) (bo : Addr) (bu : Addr) (x0 : Addr) (x1 : Addr) (x2 : Addr) (h0 : Heap) (n0 : Nat) (Z0 : n0 ≤ h0.size) (E_a1 : Exa Z h0 a1 "com/example/craterworks/craterworks/SharesStation") (F_occupied_a1 : Fld Z h0 a1 "com/example/craterworks/craterworks/SharesStation" "occupied" "[[Z" (.ref bo)) (F_uncovered_a1 : Fld Z h0 a1 "com/example/craterworks/craterworks/SharesStation" "uncovered" "[Z" (.ref bu)) (A_bo : Av Z h0 bo (.array .boolean) [(.ref x0), (.ref x1), (.ref x2)]) (A_x2 : Av Z h0 x2 .boolean [(.int (0 : Int32)), (.int (0 : Int32)), (.int (1 : Int32)), (.int (1 : Int32)), (.int (1 : Int32))]) (g_x2 : n0 ≤ x2) (ne_a1_x2 : a1 ≠ x2) (ne_bo_x2 : bo ≠ x2) :
    Con l Z (⟨"com/example/craterworks/craterworks/SharesStation", "sendHome", "(I)V"⟩ : MethodName) prog_6_method_12_code 3 none ({ frames := 0, cells := 0, slots := 0, locals := 0 } : Room) [] #[(.ref a1), (.int (2 : Int32))] h0 (fun v h L => v = none ∧ Fr n0 L ∧ Keep h0 h [x2] ∧ Av Z h x2 .boolean [(.int (0 : Int32)), (.int (1 : Int32)), (.int (1 : Int32)), (.int (1 : Int32)), (.int (1 : Int32))]) := by
  refine Con.of (plainFor_of_name pn_com_example_craterworks_craterworks_SharesStation) #[.val (.ref a1), .val (.int (2 : Int32)), .unset] (fun m => ef11_2_2 m a1 (2 : Int32)) ?_
  intro p e s m below meth c s₁ K hx hby hml hown hnm hret hlk hZ X0 e0
  have N0 := Fr.nil n0
  refine m_iconst K X0.here hx hby (3 : Int32) d_prog_6_12_0 rfl rfl ?_
  refine m_istoreN K X0.here hx hby #[.val (.ref a1), .val (.int (2 : Int32)), .val (.int (3 : Int32))] d_prog_6_12_1 rfl rfl ?_
  refine m_aloadN K X0.here hx hby d_prog_6_12_2 rfl rfl rfl ?_
  refine k_getF K X0 hx hby hZ hown (host := "") (Or.inl (hw _ (List.mem_of_getElem? (i := 38) rfl))) Via.refl e0 F_occupied_a1 d_prog_6_12_3 rfl fun T1 X1 e1 => ?_
  refine m_iloadN K X1.here hx hby d_prog_6_12_6 rfl rfl ?_
  refine k_ldR K X1 hx hby hZ e1 rfl A_bo (v := (.ref x2)) (by decide) rfl d_prog_6_12_7 rfl ?_
  refine m_iloadN K X1.here hx hby d_prog_6_12_8 rfl rfl ?_
  refine k_ldZ K X1 hx hby hZ e1 A_x2 (v := (.int (1 : Int32))) (by decide) rfl d_prog_6_12_9 rfl ?_
  refine m_ifN K X1.here hx hby (q := 13) d_prog_6_12_10 ((if0 _ _).trans (feq (by decide : ¬ ((1 : Int32) = (0 : Int32)))).1) rfl ?_
  refine m_iinc K X1.here hx hby #[.val (.ref a1), .val (.int (2 : Int32)), .val (.int (2 : Int32))] d_prog_6_12_13 rfl rfl rfl ?_
  refine m_goto K X1.here hx hby (q := 2) d_prog_6_12_16 (by decide) rfl ?_
  refine m_aloadN K X1.here hx hby d_prog_6_12_2 rfl rfl rfl ?_
  refine k_getF K X1 hx hby hZ hown (host := "") (Or.inl (hw _ (List.mem_of_getElem? (i := 38) rfl))) Via.refl e1 F_occupied_a1 d_prog_6_12_3 rfl fun T2 X2 e2 => ?_
  refine m_iloadN K X2.here hx hby d_prog_6_12_6 rfl rfl ?_
  refine k_ldR K X2 hx hby hZ e2 rfl A_bo (v := (.ref x2)) (by decide) rfl d_prog_6_12_7 rfl ?_
  refine m_iloadN K X2.here hx hby d_prog_6_12_8 rfl rfl ?_
  refine k_ldZ K X2 hx hby hZ e2 A_x2 (v := (.int (1 : Int32))) (by decide) rfl d_prog_6_12_9 rfl ?_
  refine m_ifN K X2.here hx hby (q := 13) d_prog_6_12_10 ((if0 _ _).trans (feq (by decide : ¬ ((1 : Int32) = (0 : Int32)))).1) rfl ?_
  refine m_iinc K X2.here hx hby #[.val (.ref a1), .val (.int (2 : Int32)), .val (.int (1 : Int32))] d_prog_6_12_13 rfl rfl rfl ?_
  refine m_goto K X2.here hx hby (q := 2) d_prog_6_12_16 (by decide) rfl ?_
  refine m_aloadN K X2.here hx hby d_prog_6_12_2 rfl rfl rfl ?_
  refine k_getF K X2 hx hby hZ hown (host := "") (Or.inl (hw _ (List.mem_of_getElem? (i := 38) rfl))) Via.refl e2 F_occupied_a1 d_prog_6_12_3 rfl fun T3 X3 e3 => ?_
  refine m_iloadN K X3.here hx hby d_prog_6_12_6 rfl rfl ?_
  refine k_ldR K X3 hx hby hZ e3 rfl A_bo (v := (.ref x2)) (by decide) rfl d_prog_6_12_7 rfl ?_
  refine m_iloadN K X3.here hx hby d_prog_6_12_8 rfl rfl ?_
  refine k_ldZ K X3 hx hby hZ e3 A_x2 (v := (.int (0 : Int32))) (by decide) rfl d_prog_6_12_9 rfl ?_
  refine m_ifY K X3.here hx hby (q := 19) d_prog_6_12_10 ((if0 _ _).trans (teq (by decide : (0 : Int32) = (0 : Int32))).1) (by decide) rfl ?_
  refine m_aloadN K X3.here hx hby d_prog_6_12_19 rfl rfl rfl ?_
  refine k_getF K X3 hx hby hZ hown (host := "") (Or.inl (hw _ (List.mem_of_getElem? (i := 38) rfl))) Via.refl e3 F_occupied_a1 d_prog_6_12_20 rfl fun T4 X4 e4 => ?_
  refine m_iloadN K X4.here hx hby d_prog_6_12_23 rfl rfl ?_
  refine k_ldR K X4 hx hby hZ e4 rfl A_bo (v := (.ref x2)) (by decide) rfl d_prog_6_12_24 rfl ?_
  refine m_iloadN K X4.here hx hby d_prog_6_12_25 rfl rfl ?_
  refine m_iconst K X4.here hx hby (1 : Int32) d_prog_6_12_26 rfl rfl ?_
  refine k_stZ K X4 hx hby hZ e4 A_x2 (by decide) (Nat.le_of_ble_eq_true rfl) d_prog_6_12_27 rfl fun T5 h5 X5 e5 W5 V5 => ?_
  replace V5 : Av Z h5 x2 .boolean [(.int (0 : Int32)), (.int (1 : Int32)), (.int (1 : Int32)), (.int (1 : Int32)), (.int (1 : Int32))] := V5
  have N5 := Fr.snoc X5 N0 g_x2
  exact Go.retV X5 hx hby hlk hret d_prog_6_12_28 (by decide) (by decide) (by rw [e5]; exact ⟨rfl, N5, ((Keep.refl h0 [x2]).wr W5 (Or.inl (by simp))), V5⟩)
theorem ef11_2_3 (m : MethodId) (x0 : Addr) (x1 : Int32) : entryFrame m #[(.ref x0), (.int x1)] 3 = mkF m 0 #[.val (.ref x0), .val (.int x1), .unset] [] := by first | (simp [entryFrame, mkF, argsToLocals, Value.category]; done) | rfl
set_option maxRecDepth 65536 in
set_option maxHeartbeats 40000000 in
theorem c11_2_3 (l : Launch) (Z : State) (a0 : Array Value) (hw : ∀ d ∈ tables_1, d.before a0 Z = true) (a1 : Addr) (bo : Addr) (bu : Addr) (x0 : Addr) (x1 : Addr) (x2 : Addr) (h0 : Heap) (n0 : Nat) (Z0 : n0 ≤ h0.size) (E_a1 : Exa Z h0 a1 "com/example/craterworks/craterworks/SharesStation") (F_occupied_a1 : Fld Z h0 a1 "com/example/craterworks/craterworks/SharesStation" "occupied" "[[Z" (.ref bo)) (F_uncovered_a1 : Fld Z h0 a1 "com/example/craterworks/craterworks/SharesStation" "uncovered" "[Z" (.ref bu)) (A_bo : Av Z h0 bo (.array .boolean) [(.ref x0), (.ref x1), (.ref x2)]) (A_x2 : Av Z h0 x2 .boolean [(.int (0 : Int32)), (.int (0 : Int32)), (.int (0 : Int32)), (.int (1 : Int32)), (.int (1 : Int32))]) (g_x2 : n0 ≤ x2) (ne_a1_x2 : a1 ≠ x2) (ne_bo_x2 : bo ≠ x2) :
    Con l Z (⟨"com/example/craterworks/craterworks/SharesStation", "sendHome", "(I)V"⟩ : MethodName) prog_6_method_12_code 3 none ({ frames := 0, cells := 0, slots := 0, locals := 0 } : Room) [] #[(.ref a1), (.int (2 : Int32))] h0 (fun v h L => v = none ∧ Fr n0 L ∧ Keep h0 h [x2] ∧ Av Z h x2 .boolean [(.int (0 : Int32)), (.int (0 : Int32)), (.int (1 : Int32)), (.int (1 : Int32)), (.int (1 : Int32))]) := by
  refine Con.of (plainFor_of_name pn_com_example_craterworks_craterworks_SharesStation) #[.val (.ref a1), .val (.int (2 : Int32)), .unset] (fun m => ef11_2_3 m a1 (2 : Int32)) ?_
  intro p e s m below meth c s₁ K hx hby hml hown hnm hret hlk hZ X0 e0
  have N0 := Fr.nil n0
  refine m_iconst K X0.here hx hby (3 : Int32) d_prog_6_12_0 rfl rfl ?_
  refine m_istoreN K X0.here hx hby #[.val (.ref a1), .val (.int (2 : Int32)), .val (.int (3 : Int32))] d_prog_6_12_1 rfl rfl ?_
  refine m_aloadN K X0.here hx hby d_prog_6_12_2 rfl rfl rfl ?_
  refine k_getF K X0 hx hby hZ hown (host := "") (Or.inl (hw _ (List.mem_of_getElem? (i := 38) rfl))) Via.refl e0 F_occupied_a1 d_prog_6_12_3 rfl fun T1 X1 e1 => ?_
  refine m_iloadN K X1.here hx hby d_prog_6_12_6 rfl rfl ?_
  refine k_ldR K X1 hx hby hZ e1 rfl A_bo (v := (.ref x2)) (by decide) rfl d_prog_6_12_7 rfl ?_
  refine m_iloadN K X1.here hx hby d_prog_6_12_8 rfl rfl ?_
  refine k_ldZ K X1 hx hby hZ e1 A_x2 (v := (.int (1 : Int32))) (by decide) rfl d_prog_6_12_9 rfl ?_
  refine m_ifN K X1.here hx hby (q := 13) d_prog_6_12_10 ((if0 _ _).trans (feq (by decide : ¬ ((1 : Int32) = (0 : Int32)))).1) rfl ?_
  refine m_iinc K X1.here hx hby #[.val (.ref a1), .val (.int (2 : Int32)), .val (.int (2 : Int32))] d_prog_6_12_13 rfl rfl rfl ?_
  refine m_goto K X1.here hx hby (q := 2) d_prog_6_12_16 (by decide) rfl ?_
  refine m_aloadN K X1.here hx hby d_prog_6_12_2 rfl rfl rfl ?_
  refine k_getF K X1 hx hby hZ hown (host := "") (Or.inl (hw _ (List.mem_of_getElem? (i := 38) rfl))) Via.refl e1 F_occupied_a1 d_prog_6_12_3 rfl fun T2 X2 e2 => ?_
  refine m_iloadN K X2.here hx hby d_prog_6_12_6 rfl rfl ?_
  refine k_ldR K X2 hx hby hZ e2 rfl A_bo (v := (.ref x2)) (by decide) rfl d_prog_6_12_7 rfl ?_
  refine m_iloadN K X2.here hx hby d_prog_6_12_8 rfl rfl ?_
  refine k_ldZ K X2 hx hby hZ e2 A_x2 (v := (.int (0 : Int32))) (by decide) rfl d_prog_6_12_9 rfl ?_
  refine m_ifY K X2.here hx hby (q := 19) d_prog_6_12_10 ((if0 _ _).trans (teq (by decide : (0 : Int32) = (0 : Int32))).1) (by decide) rfl ?_
  refine m_aloadN K X2.here hx hby d_prog_6_12_19 rfl rfl rfl ?_
  refine k_getF K X2 hx hby hZ hown (host := "") (Or.inl (hw _ (List.mem_of_getElem? (i := 38) rfl))) Via.refl e2 F_occupied_a1 d_prog_6_12_20 rfl fun T3 X3 e3 => ?_
  refine m_iloadN K X3.here hx hby d_prog_6_12_23 rfl rfl ?_
  refine k_ldR K X3 hx hby hZ e3 rfl A_bo (v := (.ref x2)) (by decide) rfl d_prog_6_12_24 rfl ?_
  refine m_iloadN K X3.here hx hby d_prog_6_12_25 rfl rfl ?_
  refine m_iconst K X3.here hx hby (1 : Int32) d_prog_6_12_26 rfl rfl ?_
  refine k_stZ K X3 hx hby hZ e3 A_x2 (by decide) (Nat.le_of_ble_eq_true rfl) d_prog_6_12_27 rfl fun T4 h4 X4 e4 W4 V4 => ?_
  replace V4 : Av Z h4 x2 .boolean [(.int (0 : Int32)), (.int (0 : Int32)), (.int (1 : Int32)), (.int (1 : Int32)), (.int (1 : Int32))] := V4
  have N4 := Fr.snoc X4 N0 g_x2
  exact Go.retV X4 hx hby hlk hret d_prog_6_12_28 (by decide) (by decide) (by rw [e4]; exact ⟨rfl, N4, ((Keep.refl h0 [x2]).wr W4 (Or.inl (by simp))), V4⟩)
theorem ef11_2_4 (m : MethodId) (x0 : Addr) (x1 : Int32) : entryFrame m #[(.ref x0), (.int x1)] 3 = mkF m 0 #[.val (.ref x0), .val (.int x1), .unset] [] := by first | (simp [entryFrame, mkF, argsToLocals, Value.category]; done) | rfl
set_option maxRecDepth 65536 in
set_option maxHeartbeats 40000000 in
theorem c11_2_4 (l : Launch) (Z : State) (a0 : Array Value) (hw : ∀ d ∈ tables_1, d.before a0 Z = true) (a1 : Addr) (bo : Addr) (bu : Addr) (x0 : Addr) (x1 : Addr) (x2 : Addr) (h0 : Heap) (n0 : Nat) (Z0 : n0 ≤ h0.size) (E_a1 : Exa Z h0 a1 "com/example/craterworks/craterworks/SharesStation") (F_occupied_a1 : Fld Z h0 a1 "com/example/craterworks/craterworks/SharesStation" "occupied" "[[Z" (.ref bo)) (F_uncovered_a1 : Fld Z h0 a1 "com/example/craterworks/craterworks/SharesStation" "uncovered" "[Z" (.ref bu)) (A_bo : Av Z h0 bo (.array .boolean) [(.ref x0), (.ref x1), (.ref x2)]) (A_x2 : Av Z h0 x2 .boolean [(.int (0 : Int32)), (.int (0 : Int32)), (.int (0 : Int32)), (.int (0 : Int32)), (.int (1 : Int32))]) (g_x2 : n0 ≤ x2) (ne_a1_x2 : a1 ≠ x2) (ne_bo_x2 : bo ≠ x2) :
    Con l Z (⟨"com/example/craterworks/craterworks/SharesStation", "sendHome", "(I)V"⟩ : MethodName) prog_6_method_12_code 3 none ({ frames := 0, cells := 0, slots := 0, locals := 0 } : Room) [] #[(.ref a1), (.int (2 : Int32))] h0 (fun v h L => v = none ∧ Fr n0 L ∧ Keep h0 h [x2] ∧ Av Z h x2 .boolean [(.int (0 : Int32)), (.int (0 : Int32)), (.int (0 : Int32)), (.int (1 : Int32)), (.int (1 : Int32))]) := by
  refine Con.of (plainFor_of_name pn_com_example_craterworks_craterworks_SharesStation) #[.val (.ref a1), .val (.int (2 : Int32)), .unset] (fun m => ef11_2_4 m a1 (2 : Int32)) ?_
  intro p e s m below meth c s₁ K hx hby hml hown hnm hret hlk hZ X0 e0
  have N0 := Fr.nil n0
  refine m_iconst K X0.here hx hby (3 : Int32) d_prog_6_12_0 rfl rfl ?_
  refine m_istoreN K X0.here hx hby #[.val (.ref a1), .val (.int (2 : Int32)), .val (.int (3 : Int32))] d_prog_6_12_1 rfl rfl ?_
  refine m_aloadN K X0.here hx hby d_prog_6_12_2 rfl rfl rfl ?_
  refine k_getF K X0 hx hby hZ hown (host := "") (Or.inl (hw _ (List.mem_of_getElem? (i := 38) rfl))) Via.refl e0 F_occupied_a1 d_prog_6_12_3 rfl fun T1 X1 e1 => ?_
  refine m_iloadN K X1.here hx hby d_prog_6_12_6 rfl rfl ?_
  refine k_ldR K X1 hx hby hZ e1 rfl A_bo (v := (.ref x2)) (by decide) rfl d_prog_6_12_7 rfl ?_
  refine m_iloadN K X1.here hx hby d_prog_6_12_8 rfl rfl ?_
  refine k_ldZ K X1 hx hby hZ e1 A_x2 (v := (.int (0 : Int32))) (by decide) rfl d_prog_6_12_9 rfl ?_
  refine m_ifY K X1.here hx hby (q := 19) d_prog_6_12_10 ((if0 _ _).trans (teq (by decide : (0 : Int32) = (0 : Int32))).1) (by decide) rfl ?_
  refine m_aloadN K X1.here hx hby d_prog_6_12_19 rfl rfl rfl ?_
  refine k_getF K X1 hx hby hZ hown (host := "") (Or.inl (hw _ (List.mem_of_getElem? (i := 38) rfl))) Via.refl e1 F_occupied_a1 d_prog_6_12_20 rfl fun T2 X2 e2 => ?_
  refine m_iloadN K X2.here hx hby d_prog_6_12_23 rfl rfl ?_
  refine k_ldR K X2 hx hby hZ e2 rfl A_bo (v := (.ref x2)) (by decide) rfl d_prog_6_12_24 rfl ?_
  refine m_iloadN K X2.here hx hby d_prog_6_12_25 rfl rfl ?_
  refine m_iconst K X2.here hx hby (1 : Int32) d_prog_6_12_26 rfl rfl ?_
  refine k_stZ K X2 hx hby hZ e2 A_x2 (by decide) (Nat.le_of_ble_eq_true rfl) d_prog_6_12_27 rfl fun T3 h3 X3 e3 W3 V3 => ?_
  replace V3 : Av Z h3 x2 .boolean [(.int (0 : Int32)), (.int (0 : Int32)), (.int (0 : Int32)), (.int (1 : Int32)), (.int (1 : Int32))] := V3
  have N3 := Fr.snoc X3 N0 g_x2
  exact Go.retV X3 hx hby hlk hret d_prog_6_12_28 (by decide) (by decide) (by rw [e3]; exact ⟨rfl, N3, ((Keep.refl h0 [x2]).wr W3 (Or.inl (by simp))), V3⟩)
theorem ef11_2_5 (m : MethodId) (x0 : Addr) (x1 : Int32) : entryFrame m #[(.ref x0), (.int x1)] 3 = mkF m 0 #[.val (.ref x0), .val (.int x1), .unset] [] := by first | (simp [entryFrame, mkF, argsToLocals, Value.category]; done) | rfl
set_option maxRecDepth 65536 in
set_option maxHeartbeats 40000000 in
theorem c11_2_5 (l : Launch) (Z : State) (a0 : Array Value) (hw : ∀ d ∈ tables_1, d.before a0 Z = true) (a1 : Addr) (bo : Addr) (bu : Addr) (x0 : Addr) (x1 : Addr) (x2 : Addr) (h0 : Heap) (n0 : Nat) (Z0 : n0 ≤ h0.size) (E_a1 : Exa Z h0 a1 "com/example/craterworks/craterworks/SharesStation") (F_occupied_a1 : Fld Z h0 a1 "com/example/craterworks/craterworks/SharesStation" "occupied" "[[Z" (.ref bo)) (F_uncovered_a1 : Fld Z h0 a1 "com/example/craterworks/craterworks/SharesStation" "uncovered" "[Z" (.ref bu)) (A_bo : Av Z h0 bo (.array .boolean) [(.ref x0), (.ref x1), (.ref x2)]) (A_x2 : Av Z h0 x2 .boolean [(.int (0 : Int32)), (.int (0 : Int32)), (.int (0 : Int32)), (.int (0 : Int32)), (.int (0 : Int32))]) (g_x2 : n0 ≤ x2) (ne_a1_x2 : a1 ≠ x2) (ne_bo_x2 : bo ≠ x2) :
    Con l Z (⟨"com/example/craterworks/craterworks/SharesStation", "sendHome", "(I)V"⟩ : MethodName) prog_6_method_12_code 3 none ({ frames := 0, cells := 0, slots := 0, locals := 0 } : Room) [] #[(.ref a1), (.int (2 : Int32))] h0 (fun v h L => v = none ∧ Fr n0 L ∧ Keep h0 h [x2] ∧ Av Z h x2 .boolean [(.int (0 : Int32)), (.int (0 : Int32)), (.int (0 : Int32)), (.int (1 : Int32)), (.int (0 : Int32))]) := by
  refine Con.of (plainFor_of_name pn_com_example_craterworks_craterworks_SharesStation) #[.val (.ref a1), .val (.int (2 : Int32)), .unset] (fun m => ef11_2_5 m a1 (2 : Int32)) ?_
  intro p e s m below meth c s₁ K hx hby hml hown hnm hret hlk hZ X0 e0
  have N0 := Fr.nil n0
  refine m_iconst K X0.here hx hby (3 : Int32) d_prog_6_12_0 rfl rfl ?_
  refine m_istoreN K X0.here hx hby #[.val (.ref a1), .val (.int (2 : Int32)), .val (.int (3 : Int32))] d_prog_6_12_1 rfl rfl ?_
  refine m_aloadN K X0.here hx hby d_prog_6_12_2 rfl rfl rfl ?_
  refine k_getF K X0 hx hby hZ hown (host := "") (Or.inl (hw _ (List.mem_of_getElem? (i := 38) rfl))) Via.refl e0 F_occupied_a1 d_prog_6_12_3 rfl fun T1 X1 e1 => ?_
  refine m_iloadN K X1.here hx hby d_prog_6_12_6 rfl rfl ?_
  refine k_ldR K X1 hx hby hZ e1 rfl A_bo (v := (.ref x2)) (by decide) rfl d_prog_6_12_7 rfl ?_
  refine m_iloadN K X1.here hx hby d_prog_6_12_8 rfl rfl ?_
  refine k_ldZ K X1 hx hby hZ e1 A_x2 (v := (.int (0 : Int32))) (by decide) rfl d_prog_6_12_9 rfl ?_
  refine m_ifY K X1.here hx hby (q := 19) d_prog_6_12_10 ((if0 _ _).trans (teq (by decide : (0 : Int32) = (0 : Int32))).1) (by decide) rfl ?_
  refine m_aloadN K X1.here hx hby d_prog_6_12_19 rfl rfl rfl ?_
  refine k_getF K X1 hx hby hZ hown (host := "") (Or.inl (hw _ (List.mem_of_getElem? (i := 38) rfl))) Via.refl e1 F_occupied_a1 d_prog_6_12_20 rfl fun T2 X2 e2 => ?_
  refine m_iloadN K X2.here hx hby d_prog_6_12_23 rfl rfl ?_
  refine k_ldR K X2 hx hby hZ e2 rfl A_bo (v := (.ref x2)) (by decide) rfl d_prog_6_12_24 rfl ?_
  refine m_iloadN K X2.here hx hby d_prog_6_12_25 rfl rfl ?_
  refine m_iconst K X2.here hx hby (1 : Int32) d_prog_6_12_26 rfl rfl ?_
  refine k_stZ K X2 hx hby hZ e2 A_x2 (by decide) (Nat.le_of_ble_eq_true rfl) d_prog_6_12_27 rfl fun T3 h3 X3 e3 W3 V3 => ?_
  replace V3 : Av Z h3 x2 .boolean [(.int (0 : Int32)), (.int (0 : Int32)), (.int (0 : Int32)), (.int (1 : Int32)), (.int (0 : Int32))] := V3
  have N3 := Fr.snoc X3 N0 g_x2
  exact Go.retV X3 hx hby hlk hret d_prog_6_12_28 (by decide) (by decide) (by rw [e3]; exact ⟨rfl, N3, ((Keep.refl h0 [x2]).wr W3 (Or.inl (by simp))), V3⟩)
theorem ct0 (l : Launch) (Z : State) (a0 : Array Value) (hw : ∀ d ∈ tables_1, d.before a0 Z = true) (a1 : Addr) (p3 : Int32) (bo : Addr) (bu : Addr) (x0 : Addr) (x1 : Addr) (x2 : Addr) (u0 : Int32) (u1 : Int32) (u2 : Int32) (m : Nat) (h0 : Heap) (n0 : Nat) (Z0 : n0 ≤ h0.size) (E_a1 : Exa Z h0 a1 "com/example/craterworks/craterworks/SharesStation") (F_occupied_a1 : Fld Z h0 a1 "com/example/craterworks/craterworks/SharesStation" "occupied" "[[Z" (.ref bo)) (F_uncovered_a1 : Fld Z h0 a1 "com/example/craterworks/craterworks/SharesStation" "uncovered" "[Z" (.ref bu)) (A_bo : Av Z h0 bo (.array .boolean) [(.ref x0), (.ref x1), (.ref x2)]) (A_x0 : Av Z h0 x0 .boolean [(.int (1 : Int32)), (.int (1 : Int32)), (.int (1 : Int32)), (.int (1 : Int32)), (.int (1 : Int32))]) (A_bu : Av Z h0 bu .boolean [(.int u0), (.int u1), (.int u2)]) (g_x0 : n0 ≤ x0) (g_bu : n0 ≤ bu) (ne_a1_x0 : a1 ≠ x0) (ne_a1_bu : a1 ≠ bu) (ne_bo_x0 : bo ≠ x0) (ne_bo_bu : bo ≠ bu) (ne_x0_bu : x0 ≠ bu) (hm : p3 = Int32.ofNat m) (h5 : m ≤ 5) :
    Con l Z (⟨"com/example/craterworks/craterworks/SharesStationBranchesPinLaw", "takeN", "(Lcom/example/craterworks/craterworks/SharesStation;II)V"⟩ : MethodName) method_2_code 3 none ({ frames := 1, cells := 0, slots := 0, locals := 14 } : Room) [] #[(.ref a1), (.int (0 : Int32)), (.int p3)] h0 (fun v h L => ∃ zu0 : Int32, ∃ zu1 : Int32, ∃ zu2 : Int32, v = none ∧ Fr n0 L ∧ Keep h0 h [x0, bu] ∧ Av Z h x0 .boolean [(.int (cx m 0)), (.int (cx m 1)), (.int (cx m 2)), (.int (cx m 3)), (.int (cx m 4))] ∧ Av Z h bu .boolean [(.int zu0), (.int zu1), (.int zu2)]) := by
  subst hm
  match m, h5 with
  | 0, _ => exact c7_0_0 l Z a0 hw a1 bo bu x0 x1 x2 u0 u1 u2 h0 n0 Z0 E_a1 F_occupied_a1 F_uncovered_a1 A_bo A_x0 A_bu g_x0 g_bu ne_a1_x0 ne_a1_bu ne_bo_x0 ne_bo_bu ne_x0_bu
  | 1, _ => exact c7_0_1 l Z a0 hw a1 bo bu x0 x1 x2 u0 u1 u2 h0 n0 Z0 E_a1 F_occupied_a1 F_uncovered_a1 A_bo A_x0 A_bu g_x0 g_bu ne_a1_x0 ne_a1_bu ne_bo_x0 ne_bo_bu ne_x0_bu
  | 2, _ => exact c7_0_2 l Z a0 hw a1 bo bu x0 x1 x2 u0 u1 u2 h0 n0 Z0 E_a1 F_occupied_a1 F_uncovered_a1 A_bo A_x0 A_bu g_x0 g_bu ne_a1_x0 ne_a1_bu ne_bo_x0 ne_bo_bu ne_x0_bu
  | 3, _ => exact c7_0_3 l Z a0 hw a1 bo bu x0 x1 x2 u0 u1 u2 h0 n0 Z0 E_a1 F_occupied_a1 F_uncovered_a1 A_bo A_x0 A_bu g_x0 g_bu ne_a1_x0 ne_a1_bu ne_bo_x0 ne_bo_bu ne_x0_bu
  | 4, _ => exact c7_0_4 l Z a0 hw a1 bo bu x0 x1 x2 u0 u1 u2 h0 n0 Z0 E_a1 F_occupied_a1 F_uncovered_a1 A_bo A_x0 A_bu g_x0 g_bu ne_a1_x0 ne_a1_bu ne_bo_x0 ne_bo_bu ne_x0_bu
  | 5, _ => exact c7_0_5 l Z a0 hw a1 bo bu x0 x1 x2 u0 u1 u2 h0 n0 Z0 E_a1 F_occupied_a1 F_uncovered_a1 A_bo A_x0 A_bu g_x0 g_bu ne_a1_x0 ne_a1_bu ne_bo_x0 ne_bo_bu ne_x0_bu
  | j + 6, h => exact absurd h (by omega)
theorem cs0 (l : Launch) (Z : State) (a0 : Array Value) (hw : ∀ d ∈ tables_1, d.before a0 Z = true) (a1 : Addr) (bo : Addr) (bu : Addr) (x0 : Addr) (x1 : Addr) (x2 : Addr) (m : Nat) (h0 : Heap) (n0 : Nat) (Z0 : n0 ≤ h0.size) (E_a1 : Exa Z h0 a1 "com/example/craterworks/craterworks/SharesStation") (F_occupied_a1 : Fld Z h0 a1 "com/example/craterworks/craterworks/SharesStation" "occupied" "[[Z" (.ref bo)) (F_uncovered_a1 : Fld Z h0 a1 "com/example/craterworks/craterworks/SharesStation" "uncovered" "[Z" (.ref bu)) (A_bo : Av Z h0 bo (.array .boolean) [(.ref x0), (.ref x1), (.ref x2)]) (A_x0 : Av Z h0 x0 .boolean [(.int (cx m 0)), (.int (cx m 1)), (.int (cx m 2)), (.int (cx m 3)), (.int (cx m 4))]) (g_x0 : n0 ≤ x0) (ne_a1_x0 : a1 ≠ x0) (ne_bo_x0 : bo ≠ x0) (h1 : 1 ≤ m) (h5 : m ≤ 5) :
    Con l Z (⟨"com/example/craterworks/craterworks/SharesStation", "sendHome", "(I)V"⟩ : MethodName) prog_6_method_12_code 3 none ({ frames := 0, cells := 0, slots := 0, locals := 0 } : Room) [] #[(.ref a1), (.int (0 : Int32))] h0 (fun v h L => v = none ∧ Fr n0 L ∧ Keep h0 h [x0] ∧ Av Z h x0 .boolean [(.int (sx m 0)), (.int (sx m 1)), (.int (sx m 2)), (.int (sx m 3)), (.int (sx m 4))]) := by
  match m, h1, h5 with
  | 1, _, _ => exact c11_0_1 l Z a0 hw a1 bo bu x0 x1 x2 h0 n0 Z0 E_a1 F_occupied_a1 F_uncovered_a1 A_bo A_x0 g_x0 ne_a1_x0 ne_bo_x0
  | 2, _, _ => exact c11_0_2 l Z a0 hw a1 bo bu x0 x1 x2 h0 n0 Z0 E_a1 F_occupied_a1 F_uncovered_a1 A_bo A_x0 g_x0 ne_a1_x0 ne_bo_x0
  | 3, _, _ => exact c11_0_3 l Z a0 hw a1 bo bu x0 x1 x2 h0 n0 Z0 E_a1 F_occupied_a1 F_uncovered_a1 A_bo A_x0 g_x0 ne_a1_x0 ne_bo_x0
  | 4, _, _ => exact c11_0_4 l Z a0 hw a1 bo bu x0 x1 x2 h0 n0 Z0 E_a1 F_occupied_a1 F_uncovered_a1 A_bo A_x0 g_x0 ne_a1_x0 ne_bo_x0
  | 5, _, _ => exact c11_0_5 l Z a0 hw a1 bo bu x0 x1 x2 h0 n0 Z0 E_a1 F_occupied_a1 F_uncovered_a1 A_bo A_x0 g_x0 ne_a1_x0 ne_bo_x0
  | j + 6, _, h => exact absurd h (by omega)
  | 0, h, _ => exact absurd h (by decide)
theorem ct1 (l : Launch) (Z : State) (a0 : Array Value) (hw : ∀ d ∈ tables_1, d.before a0 Z = true) (a1 : Addr) (p3 : Int32) (bo : Addr) (bu : Addr) (x0 : Addr) (x1 : Addr) (x2 : Addr) (u0 : Int32) (u1 : Int32) (u2 : Int32) (m : Nat) (h0 : Heap) (n0 : Nat) (Z0 : n0 ≤ h0.size) (E_a1 : Exa Z h0 a1 "com/example/craterworks/craterworks/SharesStation") (F_occupied_a1 : Fld Z h0 a1 "com/example/craterworks/craterworks/SharesStation" "occupied" "[[Z" (.ref bo)) (F_uncovered_a1 : Fld Z h0 a1 "com/example/craterworks/craterworks/SharesStation" "uncovered" "[Z" (.ref bu)) (A_bo : Av Z h0 bo (.array .boolean) [(.ref x0), (.ref x1), (.ref x2)]) (A_x1 : Av Z h0 x1 .boolean [(.int (1 : Int32)), (.int (1 : Int32)), (.int (1 : Int32)), (.int (1 : Int32)), (.int (1 : Int32))]) (A_bu : Av Z h0 bu .boolean [(.int u0), (.int u1), (.int u2)]) (g_x1 : n0 ≤ x1) (g_bu : n0 ≤ bu) (ne_a1_x1 : a1 ≠ x1) (ne_a1_bu : a1 ≠ bu) (ne_bo_x1 : bo ≠ x1) (ne_bo_bu : bo ≠ bu) (ne_x1_bu : x1 ≠ bu) (hm : p3 = Int32.ofNat m) (h5 : m ≤ 5) :
    Con l Z (⟨"com/example/craterworks/craterworks/SharesStationBranchesPinLaw", "takeN", "(Lcom/example/craterworks/craterworks/SharesStation;II)V"⟩ : MethodName) method_2_code 3 none ({ frames := 1, cells := 0, slots := 0, locals := 14 } : Room) [] #[(.ref a1), (.int (1 : Int32)), (.int p3)] h0 (fun v h L => ∃ zu0 : Int32, ∃ zu1 : Int32, ∃ zu2 : Int32, v = none ∧ Fr n0 L ∧ Keep h0 h [x1, bu] ∧ Av Z h x1 .boolean [(.int (cx m 0)), (.int (cx m 1)), (.int (cx m 2)), (.int (cx m 3)), (.int (cx m 4))] ∧ Av Z h bu .boolean [(.int zu0), (.int zu1), (.int zu2)]) := by
  subst hm
  match m, h5 with
  | 0, _ => exact c7_1_0 l Z a0 hw a1 bo bu x0 x1 x2 u0 u1 u2 h0 n0 Z0 E_a1 F_occupied_a1 F_uncovered_a1 A_bo A_x1 A_bu g_x1 g_bu ne_a1_x1 ne_a1_bu ne_bo_x1 ne_bo_bu ne_x1_bu
  | 1, _ => exact c7_1_1 l Z a0 hw a1 bo bu x0 x1 x2 u0 u1 u2 h0 n0 Z0 E_a1 F_occupied_a1 F_uncovered_a1 A_bo A_x1 A_bu g_x1 g_bu ne_a1_x1 ne_a1_bu ne_bo_x1 ne_bo_bu ne_x1_bu
  | 2, _ => exact c7_1_2 l Z a0 hw a1 bo bu x0 x1 x2 u0 u1 u2 h0 n0 Z0 E_a1 F_occupied_a1 F_uncovered_a1 A_bo A_x1 A_bu g_x1 g_bu ne_a1_x1 ne_a1_bu ne_bo_x1 ne_bo_bu ne_x1_bu
  | 3, _ => exact c7_1_3 l Z a0 hw a1 bo bu x0 x1 x2 u0 u1 u2 h0 n0 Z0 E_a1 F_occupied_a1 F_uncovered_a1 A_bo A_x1 A_bu g_x1 g_bu ne_a1_x1 ne_a1_bu ne_bo_x1 ne_bo_bu ne_x1_bu
  | 4, _ => exact c7_1_4 l Z a0 hw a1 bo bu x0 x1 x2 u0 u1 u2 h0 n0 Z0 E_a1 F_occupied_a1 F_uncovered_a1 A_bo A_x1 A_bu g_x1 g_bu ne_a1_x1 ne_a1_bu ne_bo_x1 ne_bo_bu ne_x1_bu
  | 5, _ => exact c7_1_5 l Z a0 hw a1 bo bu x0 x1 x2 u0 u1 u2 h0 n0 Z0 E_a1 F_occupied_a1 F_uncovered_a1 A_bo A_x1 A_bu g_x1 g_bu ne_a1_x1 ne_a1_bu ne_bo_x1 ne_bo_bu ne_x1_bu
  | j + 6, h => exact absurd h (by omega)
theorem cs1 (l : Launch) (Z : State) (a0 : Array Value) (hw : ∀ d ∈ tables_1, d.before a0 Z = true) (a1 : Addr) (bo : Addr) (bu : Addr) (x0 : Addr) (x1 : Addr) (x2 : Addr) (m : Nat) (h0 : Heap) (n0 : Nat) (Z0 : n0 ≤ h0.size) (E_a1 : Exa Z h0 a1 "com/example/craterworks/craterworks/SharesStation") (F_occupied_a1 : Fld Z h0 a1 "com/example/craterworks/craterworks/SharesStation" "occupied" "[[Z" (.ref bo)) (F_uncovered_a1 : Fld Z h0 a1 "com/example/craterworks/craterworks/SharesStation" "uncovered" "[Z" (.ref bu)) (A_bo : Av Z h0 bo (.array .boolean) [(.ref x0), (.ref x1), (.ref x2)]) (A_x1 : Av Z h0 x1 .boolean [(.int (cx m 0)), (.int (cx m 1)), (.int (cx m 2)), (.int (cx m 3)), (.int (cx m 4))]) (g_x1 : n0 ≤ x1) (ne_a1_x1 : a1 ≠ x1) (ne_bo_x1 : bo ≠ x1) (h1 : 1 ≤ m) (h5 : m ≤ 5) :
    Con l Z (⟨"com/example/craterworks/craterworks/SharesStation", "sendHome", "(I)V"⟩ : MethodName) prog_6_method_12_code 3 none ({ frames := 0, cells := 0, slots := 0, locals := 0 } : Room) [] #[(.ref a1), (.int (1 : Int32))] h0 (fun v h L => v = none ∧ Fr n0 L ∧ Keep h0 h [x1] ∧ Av Z h x1 .boolean [(.int (sx m 0)), (.int (sx m 1)), (.int (sx m 2)), (.int (sx m 3)), (.int (sx m 4))]) := by
  match m, h1, h5 with
  | 1, _, _ => exact c11_1_1 l Z a0 hw a1 bo bu x0 x1 x2 h0 n0 Z0 E_a1 F_occupied_a1 F_uncovered_a1 A_bo A_x1 g_x1 ne_a1_x1 ne_bo_x1
  | 2, _, _ => exact c11_1_2 l Z a0 hw a1 bo bu x0 x1 x2 h0 n0 Z0 E_a1 F_occupied_a1 F_uncovered_a1 A_bo A_x1 g_x1 ne_a1_x1 ne_bo_x1
  | 3, _, _ => exact c11_1_3 l Z a0 hw a1 bo bu x0 x1 x2 h0 n0 Z0 E_a1 F_occupied_a1 F_uncovered_a1 A_bo A_x1 g_x1 ne_a1_x1 ne_bo_x1
  | 4, _, _ => exact c11_1_4 l Z a0 hw a1 bo bu x0 x1 x2 h0 n0 Z0 E_a1 F_occupied_a1 F_uncovered_a1 A_bo A_x1 g_x1 ne_a1_x1 ne_bo_x1
  | 5, _, _ => exact c11_1_5 l Z a0 hw a1 bo bu x0 x1 x2 h0 n0 Z0 E_a1 F_occupied_a1 F_uncovered_a1 A_bo A_x1 g_x1 ne_a1_x1 ne_bo_x1
  | j + 6, _, h => exact absurd h (by omega)
  | 0, h, _ => exact absurd h (by decide)
theorem ct2 (l : Launch) (Z : State) (a0 : Array Value) (hw : ∀ d ∈ tables_1, d.before a0 Z = true) (a1 : Addr) (p3 : Int32) (bo : Addr) (bu : Addr) (x0 : Addr) (x1 : Addr) (x2 : Addr) (u0 : Int32) (u1 : Int32) (u2 : Int32) (m : Nat) (h0 : Heap) (n0 : Nat) (Z0 : n0 ≤ h0.size) (E_a1 : Exa Z h0 a1 "com/example/craterworks/craterworks/SharesStation") (F_occupied_a1 : Fld Z h0 a1 "com/example/craterworks/craterworks/SharesStation" "occupied" "[[Z" (.ref bo)) (F_uncovered_a1 : Fld Z h0 a1 "com/example/craterworks/craterworks/SharesStation" "uncovered" "[Z" (.ref bu)) (A_bo : Av Z h0 bo (.array .boolean) [(.ref x0), (.ref x1), (.ref x2)]) (A_x2 : Av Z h0 x2 .boolean [(.int (1 : Int32)), (.int (1 : Int32)), (.int (1 : Int32)), (.int (1 : Int32)), (.int (1 : Int32))]) (A_bu : Av Z h0 bu .boolean [(.int u0), (.int u1), (.int u2)]) (g_x2 : n0 ≤ x2) (g_bu : n0 ≤ bu) (ne_a1_x2 : a1 ≠ x2) (ne_a1_bu : a1 ≠ bu) (ne_bo_x2 : bo ≠ x2) (ne_bo_bu : bo ≠ bu) (ne_x2_bu : x2 ≠ bu) (hm : p3 = Int32.ofNat m) (h5 : m ≤ 5) :
    Con l Z (⟨"com/example/craterworks/craterworks/SharesStationBranchesPinLaw", "takeN", "(Lcom/example/craterworks/craterworks/SharesStation;II)V"⟩ : MethodName) method_2_code 3 none ({ frames := 1, cells := 0, slots := 0, locals := 14 } : Room) [] #[(.ref a1), (.int (2 : Int32)), (.int p3)] h0 (fun v h L => ∃ zu0 : Int32, ∃ zu1 : Int32, ∃ zu2 : Int32, v = none ∧ Fr n0 L ∧ Keep h0 h [x2, bu] ∧ Av Z h x2 .boolean [(.int (cx m 0)), (.int (cx m 1)), (.int (cx m 2)), (.int (cx m 3)), (.int (cx m 4))] ∧ Av Z h bu .boolean [(.int zu0), (.int zu1), (.int zu2)]) := by
  subst hm
  match m, h5 with
  | 0, _ => exact c7_2_0 l Z a0 hw a1 bo bu x0 x1 x2 u0 u1 u2 h0 n0 Z0 E_a1 F_occupied_a1 F_uncovered_a1 A_bo A_x2 A_bu g_x2 g_bu ne_a1_x2 ne_a1_bu ne_bo_x2 ne_bo_bu ne_x2_bu
  | 1, _ => exact c7_2_1 l Z a0 hw a1 bo bu x0 x1 x2 u0 u1 u2 h0 n0 Z0 E_a1 F_occupied_a1 F_uncovered_a1 A_bo A_x2 A_bu g_x2 g_bu ne_a1_x2 ne_a1_bu ne_bo_x2 ne_bo_bu ne_x2_bu
  | 2, _ => exact c7_2_2 l Z a0 hw a1 bo bu x0 x1 x2 u0 u1 u2 h0 n0 Z0 E_a1 F_occupied_a1 F_uncovered_a1 A_bo A_x2 A_bu g_x2 g_bu ne_a1_x2 ne_a1_bu ne_bo_x2 ne_bo_bu ne_x2_bu
  | 3, _ => exact c7_2_3 l Z a0 hw a1 bo bu x0 x1 x2 u0 u1 u2 h0 n0 Z0 E_a1 F_occupied_a1 F_uncovered_a1 A_bo A_x2 A_bu g_x2 g_bu ne_a1_x2 ne_a1_bu ne_bo_x2 ne_bo_bu ne_x2_bu
  | 4, _ => exact c7_2_4 l Z a0 hw a1 bo bu x0 x1 x2 u0 u1 u2 h0 n0 Z0 E_a1 F_occupied_a1 F_uncovered_a1 A_bo A_x2 A_bu g_x2 g_bu ne_a1_x2 ne_a1_bu ne_bo_x2 ne_bo_bu ne_x2_bu
  | 5, _ => exact c7_2_5 l Z a0 hw a1 bo bu x0 x1 x2 u0 u1 u2 h0 n0 Z0 E_a1 F_occupied_a1 F_uncovered_a1 A_bo A_x2 A_bu g_x2 g_bu ne_a1_x2 ne_a1_bu ne_bo_x2 ne_bo_bu ne_x2_bu
  | j + 6, h => exact absurd h (by omega)
theorem cs2 (l : Launch) (Z : State) (a0 : Array Value) (hw : ∀ d ∈ tables_1, d.before a0 Z = true) (a1 : Addr) (bo : Addr) (bu : Addr) (x0 : Addr) (x1 : Addr) (x2 : Addr) (m : Nat) (h0 : Heap) (n0 : Nat) (Z0 : n0 ≤ h0.size) (E_a1 : Exa Z h0 a1 "com/example/craterworks/craterworks/SharesStation") (F_occupied_a1 : Fld Z h0 a1 "com/example/craterworks/craterworks/SharesStation" "occupied" "[[Z" (.ref bo)) (F_uncovered_a1 : Fld Z h0 a1 "com/example/craterworks/craterworks/SharesStation" "uncovered" "[Z" (.ref bu)) (A_bo : Av Z h0 bo (.array .boolean) [(.ref x0), (.ref x1), (.ref x2)]) (A_x2 : Av Z h0 x2 .boolean [(.int (cx m 0)), (.int (cx m 1)), (.int (cx m 2)), (.int (cx m 3)), (.int (cx m 4))]) (g_x2 : n0 ≤ x2) (ne_a1_x2 : a1 ≠ x2) (ne_bo_x2 : bo ≠ x2) (h1 : 1 ≤ m) (h5 : m ≤ 5) :
    Con l Z (⟨"com/example/craterworks/craterworks/SharesStation", "sendHome", "(I)V"⟩ : MethodName) prog_6_method_12_code 3 none ({ frames := 0, cells := 0, slots := 0, locals := 0 } : Room) [] #[(.ref a1), (.int (2 : Int32))] h0 (fun v h L => v = none ∧ Fr n0 L ∧ Keep h0 h [x2] ∧ Av Z h x2 .boolean [(.int (sx m 0)), (.int (sx m 1)), (.int (sx m 2)), (.int (sx m 3)), (.int (sx m 4))]) := by
  match m, h1, h5 with
  | 1, _, _ => exact c11_2_1 l Z a0 hw a1 bo bu x0 x1 x2 h0 n0 Z0 E_a1 F_occupied_a1 F_uncovered_a1 A_bo A_x2 g_x2 ne_a1_x2 ne_bo_x2
  | 2, _, _ => exact c11_2_2 l Z a0 hw a1 bo bu x0 x1 x2 h0 n0 Z0 E_a1 F_occupied_a1 F_uncovered_a1 A_bo A_x2 g_x2 ne_a1_x2 ne_bo_x2
  | 3, _, _ => exact c11_2_3 l Z a0 hw a1 bo bu x0 x1 x2 h0 n0 Z0 E_a1 F_occupied_a1 F_uncovered_a1 A_bo A_x2 g_x2 ne_a1_x2 ne_bo_x2
  | 4, _, _ => exact c11_2_4 l Z a0 hw a1 bo bu x0 x1 x2 h0 n0 Z0 E_a1 F_occupied_a1 F_uncovered_a1 A_bo A_x2 g_x2 ne_a1_x2 ne_bo_x2
  | 5, _, _ => exact c11_2_5 l Z a0 hw a1 bo bu x0 x1 x2 h0 n0 Z0 E_a1 F_occupied_a1 F_uncovered_a1 A_bo A_x2 g_x2 ne_a1_x2 ne_bo_x2
  | j + 6, _, h => exact absurd h (by omega)
  | 0, h, _ => exact absurd h (by decide)
def w9_1 (y00 : Int32) : Int32 := (if y00 = (0 : Int32) then (0 : Int32) else (1 : Int32))
theorem w9_1_01 (y00 : Int32) : (w9_1 y00) = 0 ∨ (w9_1 y00) = 1 := by
  unfold w9_1
  split
  · exact (Or.inl rfl)
  · exact (Or.inr rfl)
def w9_2 (y00 : Int32) (y01 : Int32) : Int32 := (if y01 = (0 : Int32) then (w9_1 y00) else ((w9_1 y00) + (1 : Int32)))
def w9_3 (y00 : Int32) (y01 : Int32) (y02 : Int32) : Int32 := (if y02 = (0 : Int32) then (w9_2 y00 y01) else ((w9_2 y00 y01) + (1 : Int32)))
def w9_4 (y00 : Int32) (y01 : Int32) (y02 : Int32) (y03 : Int32) : Int32 := (if y03 = (0 : Int32) then (w9_3 y00 y01 y02) else ((w9_3 y00 y01 y02) + (1 : Int32)))
def w9_5 (y00 : Int32) (y01 : Int32) (y02 : Int32) (y03 : Int32) : Int32 := ((w9_4 y00 y01 y02 y03) + (1 : Int32))
def w9_6 (y00 : Int32) (y01 : Int32) (y02 : Int32) (y03 : Int32) (y04 : Int32) : Int32 := (if y04 = (0 : Int32) then (w9_4 y00 y01 y02 y03) else (w9_5 y00 y01 y02 y03))
def w9_7 (y00 : Int32) (y01 : Int32) (y02 : Int32) (y03 : Int32) (y04 : Int32) : Int32 := ((w9_6 y00 y01 y02 y03 y04) + (1 : Int32))
def w9_8 (y00 : Int32) (y01 : Int32) (y02 : Int32) (y03 : Int32) (y04 : Int32) (y10 : Int32) : Int32 := (if y10 = (0 : Int32) then (w9_6 y00 y01 y02 y03 y04) else (w9_7 y00 y01 y02 y03 y04))
def w9_9 (y00 : Int32) (y01 : Int32) (y02 : Int32) (y03 : Int32) (y04 : Int32) (y10 : Int32) : Int32 := ((w9_8 y00 y01 y02 y03 y04 y10) + (1 : Int32))
def w9_10 (y00 : Int32) (y01 : Int32) (y02 : Int32) (y03 : Int32) (y04 : Int32) (y10 : Int32) (y11 : Int32) : Int32 := (if y11 = (0 : Int32) then (w9_8 y00 y01 y02 y03 y04 y10) else (w9_9 y00 y01 y02 y03 y04 y10))
def w9_11 (y00 : Int32) (y01 : Int32) (y02 : Int32) (y03 : Int32) (y04 : Int32) (y10 : Int32) (y11 : Int32) : Int32 := ((w9_10 y00 y01 y02 y03 y04 y10 y11) + (1 : Int32))
def w9_12 (y00 : Int32) (y01 : Int32) (y02 : Int32) (y03 : Int32) (y04 : Int32) (y10 : Int32) (y11 : Int32) (y12 : Int32) : Int32 := (if y12 = (0 : Int32) then (w9_10 y00 y01 y02 y03 y04 y10 y11) else (w9_11 y00 y01 y02 y03 y04 y10 y11))
def w9_13 (y00 : Int32) (y01 : Int32) (y02 : Int32) (y03 : Int32) (y04 : Int32) (y10 : Int32) (y11 : Int32) (y12 : Int32) : Int32 := ((w9_12 y00 y01 y02 y03 y04 y10 y11 y12) + (1 : Int32))
def w9_14 (y00 : Int32) (y01 : Int32) (y02 : Int32) (y03 : Int32) (y04 : Int32) (y10 : Int32) (y11 : Int32) (y12 : Int32) (y13 : Int32) : Int32 := (if y13 = (0 : Int32) then (w9_12 y00 y01 y02 y03 y04 y10 y11 y12) else (w9_13 y00 y01 y02 y03 y04 y10 y11 y12))
def w9_15 (y00 : Int32) (y01 : Int32) (y02 : Int32) (y03 : Int32) (y04 : Int32) (y10 : Int32) (y11 : Int32) (y12 : Int32) (y13 : Int32) : Int32 := ((w9_14 y00 y01 y02 y03 y04 y10 y11 y12 y13) + (1 : Int32))
def w9_16 (y00 : Int32) (y01 : Int32) (y02 : Int32) (y03 : Int32) (y04 : Int32) (y10 : Int32) (y11 : Int32) (y12 : Int32) (y13 : Int32) (y14 : Int32) : Int32 := (if y14 = (0 : Int32) then (w9_14 y00 y01 y02 y03 y04 y10 y11 y12 y13) else (w9_15 y00 y01 y02 y03 y04 y10 y11 y12 y13))
def w9_17 (y00 : Int32) (y01 : Int32) (y02 : Int32) (y03 : Int32) (y04 : Int32) (y10 : Int32) (y11 : Int32) (y12 : Int32) (y13 : Int32) (y14 : Int32) : Int32 := ((w9_16 y00 y01 y02 y03 y04 y10 y11 y12 y13 y14) + (1 : Int32))
def w9_18 (y00 : Int32) (y01 : Int32) (y02 : Int32) (y03 : Int32) (y04 : Int32) (y10 : Int32) (y11 : Int32) (y12 : Int32) (y13 : Int32) (y14 : Int32) (y20 : Int32) : Int32 := (if y20 = (0 : Int32) then (w9_16 y00 y01 y02 y03 y04 y10 y11 y12 y13 y14) else (w9_17 y00 y01 y02 y03 y04 y10 y11 y12 y13 y14))
def w9_19 (y00 : Int32) (y01 : Int32) (y02 : Int32) (y03 : Int32) (y04 : Int32) (y10 : Int32) (y11 : Int32) (y12 : Int32) (y13 : Int32) (y14 : Int32) (y20 : Int32) : Int32 := ((w9_18 y00 y01 y02 y03 y04 y10 y11 y12 y13 y14 y20) + (1 : Int32))
def w9_20 (y00 : Int32) (y01 : Int32) (y02 : Int32) (y03 : Int32) (y04 : Int32) (y10 : Int32) (y11 : Int32) (y12 : Int32) (y13 : Int32) (y14 : Int32) (y20 : Int32) (y21 : Int32) : Int32 := (if y21 = (0 : Int32) then (w9_18 y00 y01 y02 y03 y04 y10 y11 y12 y13 y14 y20) else (w9_19 y00 y01 y02 y03 y04 y10 y11 y12 y13 y14 y20))
def w9_21 (y00 : Int32) (y01 : Int32) (y02 : Int32) (y03 : Int32) (y04 : Int32) (y10 : Int32) (y11 : Int32) (y12 : Int32) (y13 : Int32) (y14 : Int32) (y20 : Int32) (y21 : Int32) : Int32 := ((w9_20 y00 y01 y02 y03 y04 y10 y11 y12 y13 y14 y20 y21) + (1 : Int32))
def w9_22 (y00 : Int32) (y01 : Int32) (y02 : Int32) (y03 : Int32) (y04 : Int32) (y10 : Int32) (y11 : Int32) (y12 : Int32) (y13 : Int32) (y14 : Int32) (y20 : Int32) (y21 : Int32) (y22 : Int32) : Int32 := (if y22 = (0 : Int32) then (w9_20 y00 y01 y02 y03 y04 y10 y11 y12 y13 y14 y20 y21) else (w9_21 y00 y01 y02 y03 y04 y10 y11 y12 y13 y14 y20 y21))
def w9_23 (y00 : Int32) (y01 : Int32) (y02 : Int32) (y03 : Int32) (y04 : Int32) (y10 : Int32) (y11 : Int32) (y12 : Int32) (y13 : Int32) (y14 : Int32) (y20 : Int32) (y21 : Int32) (y22 : Int32) : Int32 := ((w9_22 y00 y01 y02 y03 y04 y10 y11 y12 y13 y14 y20 y21 y22) + (1 : Int32))
def w9_24 (y00 : Int32) (y01 : Int32) (y02 : Int32) (y03 : Int32) (y04 : Int32) (y10 : Int32) (y11 : Int32) (y12 : Int32) (y13 : Int32) (y14 : Int32) (y20 : Int32) (y21 : Int32) (y22 : Int32) (y23 : Int32) : Int32 := (if y23 = (0 : Int32) then (w9_22 y00 y01 y02 y03 y04 y10 y11 y12 y13 y14 y20 y21 y22) else (w9_23 y00 y01 y02 y03 y04 y10 y11 y12 y13 y14 y20 y21 y22))
def w9_25 (y00 : Int32) (y01 : Int32) (y02 : Int32) (y03 : Int32) (y04 : Int32) (y10 : Int32) (y11 : Int32) (y12 : Int32) (y13 : Int32) (y14 : Int32) (y20 : Int32) (y21 : Int32) (y22 : Int32) (y23 : Int32) : Int32 := ((w9_24 y00 y01 y02 y03 y04 y10 y11 y12 y13 y14 y20 y21 y22 y23) + (1 : Int32))
def w9_26 (y00 : Int32) (y01 : Int32) (y02 : Int32) (y03 : Int32) (y04 : Int32) (y10 : Int32) (y11 : Int32) (y12 : Int32) (y13 : Int32) (y14 : Int32) (y20 : Int32) (y21 : Int32) (y22 : Int32) (y23 : Int32) (y24 : Int32) : Int32 := (if y24 = (0 : Int32) then (w9_24 y00 y01 y02 y03 y04 y10 y11 y12 y13 y14 y20 y21 y22 y23) else (w9_25 y00 y01 y02 y03 y04 y10 y11 y12 y13 y14 y20 y21 y22 y23))
def BRV (y00 y01 y02 y03 y04 y10 y11 y12 y13 y14 y20 y21 y22 y23 y24 : Int32) : Int32 := (w9_26 y00 y01 y02 y03 y04 y10 y11 y12 y13 y14 y20 y21 y22 y23 y24)
theorem d_prog_6_2_0 : decode prog_6_method_2_code 0 = .ok (.iconst 0, 1) := by decide +kernel
theorem d_prog_6_2_1 : decode prog_6_method_2_code 1 = .ok (.istore_n 1, 1) := by decide +kernel
theorem d_prog_6_2_2 : decode prog_6_method_2_code 2 = .ok (.aload_n 0, 1) := by decide +kernel
theorem d_prog_6_2_3 : decode prog_6_method_2_code 3 = .ok (.getfield 11, 3) := by decide +kernel
theorem d_prog_6_2_6 : decode prog_6_method_2_code 6 = .ok (.astore_n 2, 1) := by decide +kernel
theorem d_prog_6_2_7 : decode prog_6_method_2_code 7 = .ok (.aload_n 2, 1) := by decide +kernel
theorem d_prog_6_2_8 : decode prog_6_method_2_code 8 = .ok (.arraylength, 1) := by decide +kernel
theorem d_prog_6_2_9 : decode prog_6_method_2_code 9 = .ok (.istore_n 3, 1) := by decide +kernel
theorem d_prog_6_2_10 : decode prog_6_method_2_code 10 = .ok (.iconst 0, 1) := by decide +kernel
theorem d_prog_6_2_11 : decode prog_6_method_2_code 11 = .ok (.istore 4, 2) := by decide +kernel
theorem d_prog_6_2_13 : decode prog_6_method_2_code 13 = .ok (.iload 4, 2) := by decide +kernel
theorem d_prog_6_2_15 : decode prog_6_method_2_code 15 = .ok (.iload_n 3, 1) := by decide +kernel
theorem d_prog_6_2_16 : decode prog_6_method_2_code 16 = .ok (.if_icmp .ge 55, 3) := by decide +kernel
theorem d_prog_6_2_19 : decode prog_6_method_2_code 19 = .ok (.aload_n 2, 1) := by decide +kernel
theorem d_prog_6_2_20 : decode prog_6_method_2_code 20 = .ok (.iload 4, 2) := by decide +kernel
theorem d_prog_6_2_22 : decode prog_6_method_2_code 22 = .ok (.aaload, 1) := by decide +kernel
theorem d_prog_6_2_23 : decode prog_6_method_2_code 23 = .ok (.astore 5, 2) := by decide +kernel
theorem d_prog_6_2_25 : decode prog_6_method_2_code 25 = .ok (.aload 5, 2) := by decide +kernel
theorem d_prog_6_2_27 : decode prog_6_method_2_code 27 = .ok (.astore 6, 2) := by decide +kernel
theorem d_prog_6_2_29 : decode prog_6_method_2_code 29 = .ok (.aload 6, 2) := by decide +kernel
theorem d_prog_6_2_31 : decode prog_6_method_2_code 31 = .ok (.arraylength, 1) := by decide +kernel
theorem d_prog_6_2_32 : decode prog_6_method_2_code 32 = .ok (.istore 7, 2) := by decide +kernel
theorem d_prog_6_2_34 : decode prog_6_method_2_code 34 = .ok (.iconst 0, 1) := by decide +kernel
theorem d_prog_6_2_35 : decode prog_6_method_2_code 35 = .ok (.istore 8, 2) := by decide +kernel
theorem d_prog_6_2_37 : decode prog_6_method_2_code 37 = .ok (.iload 8, 2) := by decide +kernel
theorem d_prog_6_2_39 : decode prog_6_method_2_code 39 = .ok (.iload 7, 2) := by decide +kernel
theorem d_prog_6_2_41 : decode prog_6_method_2_code 41 = .ok (.if_icmp .ge 24, 3) := by decide +kernel
theorem d_prog_6_2_44 : decode prog_6_method_2_code 44 = .ok (.aload 6, 2) := by decide +kernel
theorem d_prog_6_2_46 : decode prog_6_method_2_code 46 = .ok (.iload 8, 2) := by decide +kernel
theorem d_prog_6_2_48 : decode prog_6_method_2_code 48 = .ok (.baload, 1) := by decide +kernel
theorem d_prog_6_2_49 : decode prog_6_method_2_code 49 = .ok (.istore 9, 2) := by decide +kernel
theorem d_prog_6_2_51 : decode prog_6_method_2_code 51 = .ok (.iload 9, 2) := by decide +kernel
theorem d_prog_6_2_53 : decode prog_6_method_2_code 53 = .ok (.ifCond .eq 6, 3) := by decide +kernel
theorem d_prog_6_2_56 : decode prog_6_method_2_code 56 = .ok (.iinc 1 1, 3) := by decide +kernel
theorem d_prog_6_2_59 : decode prog_6_method_2_code 59 = .ok (.iinc 8 1, 3) := by decide +kernel
theorem d_prog_6_2_62 : decode prog_6_method_2_code 62 = .ok (.goto (-25), 3) := by decide +kernel
theorem d_prog_6_2_65 : decode prog_6_method_2_code 65 = .ok (.iinc 4 1, 3) := by decide +kernel
theorem d_prog_6_2_68 : decode prog_6_method_2_code 68 = .ok (.goto (-55), 3) := by decide +kernel
theorem d_prog_6_2_71 : decode prog_6_method_2_code 71 = .ok (.iload_n 1, 1) := by decide +kernel
theorem d_prog_6_2_72 : decode prog_6_method_2_code 72 = .ok (.ireturn, 1) := by decide +kernel
theorem ef9 (m : MethodId) (x0 : Addr) : entryFrame m #[(.ref x0)] 10 = mkF m 0 #[.val (.ref x0), .unset, .unset, .unset, .unset, .unset, .unset, .unset, .unset, .unset] [] := by first | (simp [entryFrame, mkF, argsToLocals, Value.category]; done) | rfl
set_option maxRecDepth 65536 in
set_option maxHeartbeats 40000000 in
theorem c9 (l : Launch) (Z : State) (a0 : Array Value) (hw : ∀ d ∈ tables_1, d.before a0 Z = true) (a1 : Addr) (bo : Addr) (x0 : Addr) (x1 : Addr) (x2 : Addr) (y00 : Int32) (y01 : Int32) (y02 : Int32) (y03 : Int32) (y04 : Int32) (y10 : Int32) (y11 : Int32) (y12 : Int32) (y13 : Int32) (y14 : Int32) (y20 : Int32) (y21 : Int32) (y22 : Int32) (y23 : Int32) (y24 : Int32) (h0 : Heap) (n0 : Nat) (Z0 : n0 ≤ h0.size) (F_occupied_a1 : Fld Z h0 a1 "com/example/craterworks/craterworks/SharesStation" "occupied" "[[Z" (.ref bo)) (A_bo : Av Z h0 bo (.array .boolean) [(.ref x0), (.ref x1), (.ref x2)]) (A_x0 : Av Z h0 x0 .boolean [(.int y00), (.int y01), (.int y02), (.int y03), (.int y04)]) (A_x1 : Av Z h0 x1 .boolean [(.int y10), (.int y11), (.int y12), (.int y13), (.int y14)]) (A_x2 : Av Z h0 x2 .boolean [(.int y20), (.int y21), (.int y22), (.int y23), (.int y24)]) :
    Con l Z (⟨"com/example/craterworks/craterworks/SharesStation", "branches", "()I"⟩ : MethodName) prog_6_method_2_code 10 (some .int) ({ frames := 0, cells := 0, slots := 0, locals := 0 } : Room) [] #[(.ref a1)] h0 (fun v h L => v = some (.int (BRV y00 y01 y02 y03 y04 y10 y11 y12 y13 y14 y20 y21 y22 y23 y24)) ∧ h = h0 ∧ L = []) := by
  refine Con.of (plainFor_of_name pn_com_example_craterworks_craterworks_SharesStation) #[.val (.ref a1), .unset, .unset, .unset, .unset, .unset, .unset, .unset, .unset, .unset] (fun m => ef9 m a1) ?_
  intro p e s m below meth c s₁ K hx hby hml hown hnm hret hlk hZ X0 e0
  have N0 := Fr.nil n0
  refine m_iconst K X0.here hx hby (0 : Int32) d_prog_6_2_0 rfl rfl ?_
  refine m_istoreN K X0.here hx hby #[.val (.ref a1), .val (.int (0 : Int32)), .unset, .unset, .unset, .unset, .unset, .unset, .unset, .unset] d_prog_6_2_1 rfl rfl ?_
  refine m_aloadN K X0.here hx hby d_prog_6_2_2 rfl rfl rfl ?_
  refine k_getF K X0 hx hby hZ hown (host := "") (Or.inl (hw _ (List.mem_of_getElem? (i := 38) rfl))) Via.refl e0 F_occupied_a1 d_prog_6_2_3 rfl fun T1 X1 e1 => ?_
  refine m_astoreN K X1.here hx hby #[.val (.ref a1), .val (.int (0 : Int32)), .val (.ref bo), .unset, .unset, .unset, .unset, .unset, .unset, .unset] d_prog_6_2_6 rfl rfl rfl ?_
  refine m_aloadN K X1.here hx hby d_prog_6_2_7 rfl rfl rfl ?_
  refine k_len K X1 hx hby hZ (3 : Int32) e1 A_bo rfl d_prog_6_2_8 rfl ?_
  refine m_istoreN K X1.here hx hby #[.val (.ref a1), .val (.int (0 : Int32)), .val (.ref bo), .val (.int (3 : Int32)), .unset, .unset, .unset, .unset, .unset, .unset] d_prog_6_2_9 rfl rfl ?_
  refine m_iconst K X1.here hx hby (0 : Int32) d_prog_6_2_10 rfl rfl ?_
  refine m_istore K X1.here hx hby #[.val (.ref a1), .val (.int (0 : Int32)), .val (.ref bo), .val (.int (3 : Int32)), .val (.int (0 : Int32)), .unset, .unset, .unset, .unset, .unset] d_prog_6_2_11 rfl rfl ?_
  refine m_iload K X1.here hx hby d_prog_6_2_13 rfl rfl ?_
  refine m_iloadN K X1.here hx hby d_prog_6_2_15 rfl rfl ?_
  refine m_icmpN K X1.here hx hby (q := 19) d_prog_6_2_16 (tlt (by decide : (0 : Int32) < (3 : Int32))).2.1 rfl ?_
  refine m_aloadN K X1.here hx hby d_prog_6_2_19 rfl rfl rfl ?_
  refine m_iload K X1.here hx hby d_prog_6_2_20 rfl rfl ?_
  refine k_ldR K X1 hx hby hZ e1 rfl A_bo (v := (.ref x0)) (by decide) rfl d_prog_6_2_22 rfl ?_
  refine m_astore K X1.here hx hby #[.val (.ref a1), .val (.int (0 : Int32)), .val (.ref bo), .val (.int (3 : Int32)), .val (.int (0 : Int32)), .val (.ref x0), .unset, .unset, .unset, .unset] d_prog_6_2_23 rfl rfl rfl ?_
  refine m_aload K X1.here hx hby d_prog_6_2_25 rfl rfl rfl ?_
  refine m_astore K X1.here hx hby #[.val (.ref a1), .val (.int (0 : Int32)), .val (.ref bo), .val (.int (3 : Int32)), .val (.int (0 : Int32)), .val (.ref x0), .val (.ref x0), .unset, .unset, .unset] d_prog_6_2_27 rfl rfl rfl ?_
  refine m_aload K X1.here hx hby d_prog_6_2_29 rfl rfl rfl ?_
  refine k_len K X1 hx hby hZ (5 : Int32) e1 A_x0 rfl d_prog_6_2_31 rfl ?_
  refine m_istore K X1.here hx hby #[.val (.ref a1), .val (.int (0 : Int32)), .val (.ref bo), .val (.int (3 : Int32)), .val (.int (0 : Int32)), .val (.ref x0), .val (.ref x0), .val (.int (5 : Int32)), .unset, .unset] d_prog_6_2_32 rfl rfl ?_
  refine m_iconst K X1.here hx hby (0 : Int32) d_prog_6_2_34 rfl rfl ?_
  refine m_istore K X1.here hx hby #[.val (.ref a1), .val (.int (0 : Int32)), .val (.ref bo), .val (.int (3 : Int32)), .val (.int (0 : Int32)), .val (.ref x0), .val (.ref x0), .val (.int (5 : Int32)), .val (.int (0 : Int32)), .unset] d_prog_6_2_35 rfl rfl ?_
  refine m_iload K X1.here hx hby d_prog_6_2_37 rfl rfl ?_
  refine m_iload K X1.here hx hby d_prog_6_2_39 rfl rfl ?_
  refine m_icmpN K X1.here hx hby (q := 44) d_prog_6_2_41 (tlt (by decide : (0 : Int32) < (5 : Int32))).2.1 rfl ?_
  refine m_aload K X1.here hx hby d_prog_6_2_44 rfl rfl rfl ?_
  refine m_iload K X1.here hx hby d_prog_6_2_46 rfl rfl ?_
  refine k_ldZ K X1 hx hby hZ e1 A_x0 (v := (.int y00)) (by decide) rfl d_prog_6_2_48 rfl ?_
  refine m_istore K X1.here hx hby #[.val (.ref a1), .val (.int (0 : Int32)), .val (.ref bo), .val (.int (3 : Int32)), .val (.int (0 : Int32)), .val (.ref x0), .val (.ref x0), .val (.int (5 : Int32)), .val (.int (0 : Int32)), .val (.int y00)] d_prog_6_2_49 rfl rfl ?_
  refine m_iload K X1.here hx hby d_prog_6_2_51 rfl rfl ?_
  obtain ⟨T3, X3, e3, st3⟩ : Mx X1 h0 (mkF m 59 #[.val (.ref a1), .val (.int (w9_1 y00)), .val (.ref bo), .val (.int (3 : Int32)), .val (.int (0 : Int32)), .val (.ref x0), .val (.ref x0), .val (.int (5 : Int32)), .val (.int (0 : Int32)), .val (.int y00)] []) (T1.setTop (mkF m 53 #[.val (.ref a1), .val (.int (0 : Int32)), .val (.ref bo), .val (.int (3 : Int32)), .val (.int (0 : Int32)), .val (.ref x0), .val (.ref x0), .val (.int (5 : Int32)), .val (.int (0 : Int32)), .val (.int y00)] [(.int y00)])) := by
    refine Mx.with fun K => ?_
    by_cases hc53_2 : y00 = (0 : Int32)
    · refine m_ifY K X1.here hx hby (q := 59) d_prog_6_2_53 ((if0 _ _).trans (teq hc53_2).1) (by decide) rfl ?_
      rw [show ((w9_1 y00) : Int32) = (0 : Int32) from if_pos hc53_2]
      exact Mx.here X1 e1
    · refine m_ifN K X1.here hx hby (q := 56) d_prog_6_2_53 ((if0 _ _).trans (feq hc53_2).1) rfl ?_
      refine m_iinc K X1.here hx hby #[.val (.ref a1), .val (.int (1 : Int32)), .val (.ref bo), .val (.int (3 : Int32)), .val (.int (0 : Int32)), .val (.ref x0), .val (.ref x0), .val (.int (5 : Int32)), .val (.int (0 : Int32)), .val (.int y00)] d_prog_6_2_56 rfl rfl rfl ?_
      rw [show ((w9_1 y00) : Int32) = (1 : Int32) from if_neg hc53_2]
      exact Mx.here X1 e1
  refine k_go K st3 ?_
  refine m_iinc K X3.here hx hby #[.val (.ref a1), .val (.int (w9_1 y00)), .val (.ref bo), .val (.int (3 : Int32)), .val (.int (0 : Int32)), .val (.ref x0), .val (.ref x0), .val (.int (5 : Int32)), .val (.int (1 : Int32)), .val (.int y00)] d_prog_6_2_59 rfl rfl rfl ?_
  refine m_goto K X3.here hx hby (q := 37) d_prog_6_2_62 (by decide) rfl ?_
  refine m_iload K X3.here hx hby d_prog_6_2_37 rfl rfl ?_
  refine m_iload K X3.here hx hby d_prog_6_2_39 rfl rfl ?_
  refine m_icmpN K X3.here hx hby (q := 44) d_prog_6_2_41 (tlt (by decide : (1 : Int32) < (5 : Int32))).2.1 rfl ?_
  refine m_aload K X3.here hx hby d_prog_6_2_44 rfl rfl rfl ?_
  refine m_iload K X3.here hx hby d_prog_6_2_46 rfl rfl ?_
  refine k_ldZ K X3 hx hby hZ e3 A_x0 (v := (.int y01)) (by decide) rfl d_prog_6_2_48 rfl ?_
  refine m_istore K X3.here hx hby #[.val (.ref a1), .val (.int (w9_1 y00)), .val (.ref bo), .val (.int (3 : Int32)), .val (.int (0 : Int32)), .val (.ref x0), .val (.ref x0), .val (.int (5 : Int32)), .val (.int (1 : Int32)), .val (.int y01)] d_prog_6_2_49 rfl rfl ?_
  refine m_iload K X3.here hx hby d_prog_6_2_51 rfl rfl ?_
  obtain ⟨T5, X5, e5, st5⟩ : Mx X3 h0 (mkF m 59 #[.val (.ref a1), .val (.int (w9_2 y00 y01)), .val (.ref bo), .val (.int (3 : Int32)), .val (.int (0 : Int32)), .val (.ref x0), .val (.ref x0), .val (.int (5 : Int32)), .val (.int (1 : Int32)), .val (.int y01)] []) (T3.setTop (mkF m 53 #[.val (.ref a1), .val (.int (w9_1 y00)), .val (.ref bo), .val (.int (3 : Int32)), .val (.int (0 : Int32)), .val (.ref x0), .val (.ref x0), .val (.int (5 : Int32)), .val (.int (1 : Int32)), .val (.int y01)] [(.int y01)])) := by
    refine Mx.with fun K => ?_
    by_cases hc53_4 : y01 = (0 : Int32)
    · refine m_ifY K X3.here hx hby (q := 59) d_prog_6_2_53 ((if0 _ _).trans (teq hc53_4).1) (by decide) rfl ?_
      rw [show ((w9_2 y00 y01) : Int32) = (w9_1 y00) from if_pos hc53_4]
      exact Mx.here X3 e3
    · refine m_ifN K X3.here hx hby (q := 56) d_prog_6_2_53 ((if0 _ _).trans (feq hc53_4).1) rfl ?_
      refine m_iinc K X3.here hx hby #[.val (.ref a1), .val (.int ((w9_1 y00) + (1 : Int32))), .val (.ref bo), .val (.int (3 : Int32)), .val (.int (0 : Int32)), .val (.ref x0), .val (.ref x0), .val (.int (5 : Int32)), .val (.int (1 : Int32)), .val (.int y01)] d_prog_6_2_56 rfl rfl rfl ?_
      rw [show ((w9_2 y00 y01) : Int32) = ((w9_1 y00) + (1 : Int32)) from if_neg hc53_4]
      exact Mx.here X3 e3
  refine k_go K st5 ?_
  refine m_iinc K X5.here hx hby #[.val (.ref a1), .val (.int (w9_2 y00 y01)), .val (.ref bo), .val (.int (3 : Int32)), .val (.int (0 : Int32)), .val (.ref x0), .val (.ref x0), .val (.int (5 : Int32)), .val (.int (2 : Int32)), .val (.int y01)] d_prog_6_2_59 rfl rfl rfl ?_
  refine m_goto K X5.here hx hby (q := 37) d_prog_6_2_62 (by decide) rfl ?_
  refine m_iload K X5.here hx hby d_prog_6_2_37 rfl rfl ?_
  refine m_iload K X5.here hx hby d_prog_6_2_39 rfl rfl ?_
  refine m_icmpN K X5.here hx hby (q := 44) d_prog_6_2_41 (tlt (by decide : (2 : Int32) < (5 : Int32))).2.1 rfl ?_
  refine m_aload K X5.here hx hby d_prog_6_2_44 rfl rfl rfl ?_
  refine m_iload K X5.here hx hby d_prog_6_2_46 rfl rfl ?_
  refine k_ldZ K X5 hx hby hZ e5 A_x0 (v := (.int y02)) (by decide) rfl d_prog_6_2_48 rfl ?_
  refine m_istore K X5.here hx hby #[.val (.ref a1), .val (.int (w9_2 y00 y01)), .val (.ref bo), .val (.int (3 : Int32)), .val (.int (0 : Int32)), .val (.ref x0), .val (.ref x0), .val (.int (5 : Int32)), .val (.int (2 : Int32)), .val (.int y02)] d_prog_6_2_49 rfl rfl ?_
  refine m_iload K X5.here hx hby d_prog_6_2_51 rfl rfl ?_
  obtain ⟨T7, X7, e7, st7⟩ : Mx X5 h0 (mkF m 59 #[.val (.ref a1), .val (.int (w9_3 y00 y01 y02)), .val (.ref bo), .val (.int (3 : Int32)), .val (.int (0 : Int32)), .val (.ref x0), .val (.ref x0), .val (.int (5 : Int32)), .val (.int (2 : Int32)), .val (.int y02)] []) (T5.setTop (mkF m 53 #[.val (.ref a1), .val (.int (w9_2 y00 y01)), .val (.ref bo), .val (.int (3 : Int32)), .val (.int (0 : Int32)), .val (.ref x0), .val (.ref x0), .val (.int (5 : Int32)), .val (.int (2 : Int32)), .val (.int y02)] [(.int y02)])) := by
    refine Mx.with fun K => ?_
    by_cases hc53_6 : y02 = (0 : Int32)
    · refine m_ifY K X5.here hx hby (q := 59) d_prog_6_2_53 ((if0 _ _).trans (teq hc53_6).1) (by decide) rfl ?_
      rw [show ((w9_3 y00 y01 y02) : Int32) = (w9_2 y00 y01) from if_pos hc53_6]
      exact Mx.here X5 e5
    · refine m_ifN K X5.here hx hby (q := 56) d_prog_6_2_53 ((if0 _ _).trans (feq hc53_6).1) rfl ?_
      refine m_iinc K X5.here hx hby #[.val (.ref a1), .val (.int ((w9_2 y00 y01) + (1 : Int32))), .val (.ref bo), .val (.int (3 : Int32)), .val (.int (0 : Int32)), .val (.ref x0), .val (.ref x0), .val (.int (5 : Int32)), .val (.int (2 : Int32)), .val (.int y02)] d_prog_6_2_56 rfl rfl rfl ?_
      rw [show ((w9_3 y00 y01 y02) : Int32) = ((w9_2 y00 y01) + (1 : Int32)) from if_neg hc53_6]
      exact Mx.here X5 e5
  refine k_go K st7 ?_
  refine m_iinc K X7.here hx hby #[.val (.ref a1), .val (.int (w9_3 y00 y01 y02)), .val (.ref bo), .val (.int (3 : Int32)), .val (.int (0 : Int32)), .val (.ref x0), .val (.ref x0), .val (.int (5 : Int32)), .val (.int (3 : Int32)), .val (.int y02)] d_prog_6_2_59 rfl rfl rfl ?_
  refine m_goto K X7.here hx hby (q := 37) d_prog_6_2_62 (by decide) rfl ?_
  refine m_iload K X7.here hx hby d_prog_6_2_37 rfl rfl ?_
  refine m_iload K X7.here hx hby d_prog_6_2_39 rfl rfl ?_
  refine m_icmpN K X7.here hx hby (q := 44) d_prog_6_2_41 (tlt (by decide : (3 : Int32) < (5 : Int32))).2.1 rfl ?_
  refine m_aload K X7.here hx hby d_prog_6_2_44 rfl rfl rfl ?_
  refine m_iload K X7.here hx hby d_prog_6_2_46 rfl rfl ?_
  refine k_ldZ K X7 hx hby hZ e7 A_x0 (v := (.int y03)) (by decide) rfl d_prog_6_2_48 rfl ?_
  refine m_istore K X7.here hx hby #[.val (.ref a1), .val (.int (w9_3 y00 y01 y02)), .val (.ref bo), .val (.int (3 : Int32)), .val (.int (0 : Int32)), .val (.ref x0), .val (.ref x0), .val (.int (5 : Int32)), .val (.int (3 : Int32)), .val (.int y03)] d_prog_6_2_49 rfl rfl ?_
  refine m_iload K X7.here hx hby d_prog_6_2_51 rfl rfl ?_
  obtain ⟨T9, X9, e9, st9⟩ : Mx X7 h0 (mkF m 59 #[.val (.ref a1), .val (.int (w9_4 y00 y01 y02 y03)), .val (.ref bo), .val (.int (3 : Int32)), .val (.int (0 : Int32)), .val (.ref x0), .val (.ref x0), .val (.int (5 : Int32)), .val (.int (3 : Int32)), .val (.int y03)] []) (T7.setTop (mkF m 53 #[.val (.ref a1), .val (.int (w9_3 y00 y01 y02)), .val (.ref bo), .val (.int (3 : Int32)), .val (.int (0 : Int32)), .val (.ref x0), .val (.ref x0), .val (.int (5 : Int32)), .val (.int (3 : Int32)), .val (.int y03)] [(.int y03)])) := by
    refine Mx.with fun K => ?_
    by_cases hc53_8 : y03 = (0 : Int32)
    · refine m_ifY K X7.here hx hby (q := 59) d_prog_6_2_53 ((if0 _ _).trans (teq hc53_8).1) (by decide) rfl ?_
      rw [show ((w9_4 y00 y01 y02 y03) : Int32) = (w9_3 y00 y01 y02) from if_pos hc53_8]
      exact Mx.here X7 e7
    · refine m_ifN K X7.here hx hby (q := 56) d_prog_6_2_53 ((if0 _ _).trans (feq hc53_8).1) rfl ?_
      refine m_iinc K X7.here hx hby #[.val (.ref a1), .val (.int ((w9_3 y00 y01 y02) + (1 : Int32))), .val (.ref bo), .val (.int (3 : Int32)), .val (.int (0 : Int32)), .val (.ref x0), .val (.ref x0), .val (.int (5 : Int32)), .val (.int (3 : Int32)), .val (.int y03)] d_prog_6_2_56 rfl rfl rfl ?_
      rw [show ((w9_4 y00 y01 y02 y03) : Int32) = ((w9_3 y00 y01 y02) + (1 : Int32)) from if_neg hc53_8]
      exact Mx.here X7 e7
  refine k_go K st9 ?_
  refine m_iinc K X9.here hx hby #[.val (.ref a1), .val (.int (w9_4 y00 y01 y02 y03)), .val (.ref bo), .val (.int (3 : Int32)), .val (.int (0 : Int32)), .val (.ref x0), .val (.ref x0), .val (.int (5 : Int32)), .val (.int (4 : Int32)), .val (.int y03)] d_prog_6_2_59 rfl rfl rfl ?_
  refine m_goto K X9.here hx hby (q := 37) d_prog_6_2_62 (by decide) rfl ?_
  refine m_iload K X9.here hx hby d_prog_6_2_37 rfl rfl ?_
  refine m_iload K X9.here hx hby d_prog_6_2_39 rfl rfl ?_
  refine m_icmpN K X9.here hx hby (q := 44) d_prog_6_2_41 (tlt (by decide : (4 : Int32) < (5 : Int32))).2.1 rfl ?_
  refine m_aload K X9.here hx hby d_prog_6_2_44 rfl rfl rfl ?_
  refine m_iload K X9.here hx hby d_prog_6_2_46 rfl rfl ?_
  refine k_ldZ K X9 hx hby hZ e9 A_x0 (v := (.int y04)) (by decide) rfl d_prog_6_2_48 rfl ?_
  refine m_istore K X9.here hx hby #[.val (.ref a1), .val (.int (w9_4 y00 y01 y02 y03)), .val (.ref bo), .val (.int (3 : Int32)), .val (.int (0 : Int32)), .val (.ref x0), .val (.ref x0), .val (.int (5 : Int32)), .val (.int (4 : Int32)), .val (.int y04)] d_prog_6_2_49 rfl rfl ?_
  refine m_iload K X9.here hx hby d_prog_6_2_51 rfl rfl ?_
  obtain ⟨T11, X11, e11, st11⟩ : Mx X9 h0 (mkF m 59 #[.val (.ref a1), .val (.int (w9_6 y00 y01 y02 y03 y04)), .val (.ref bo), .val (.int (3 : Int32)), .val (.int (0 : Int32)), .val (.ref x0), .val (.ref x0), .val (.int (5 : Int32)), .val (.int (4 : Int32)), .val (.int y04)] []) (T9.setTop (mkF m 53 #[.val (.ref a1), .val (.int (w9_4 y00 y01 y02 y03)), .val (.ref bo), .val (.int (3 : Int32)), .val (.int (0 : Int32)), .val (.ref x0), .val (.ref x0), .val (.int (5 : Int32)), .val (.int (4 : Int32)), .val (.int y04)] [(.int y04)])) := by
    refine Mx.with fun K => ?_
    by_cases hc53_10 : y04 = (0 : Int32)
    · refine m_ifY K X9.here hx hby (q := 59) d_prog_6_2_53 ((if0 _ _).trans (teq hc53_10).1) (by decide) rfl ?_
      rw [show ((w9_6 y00 y01 y02 y03 y04) : Int32) = (w9_4 y00 y01 y02 y03) from if_pos hc53_10]
      exact Mx.here X9 e9
    · refine m_ifN K X9.here hx hby (q := 56) d_prog_6_2_53 ((if0 _ _).trans (feq hc53_10).1) rfl ?_
      refine m_iinc K X9.here hx hby #[.val (.ref a1), .val (.int (w9_5 y00 y01 y02 y03)), .val (.ref bo), .val (.int (3 : Int32)), .val (.int (0 : Int32)), .val (.ref x0), .val (.ref x0), .val (.int (5 : Int32)), .val (.int (4 : Int32)), .val (.int y04)] d_prog_6_2_56 rfl rfl rfl ?_
      rw [show ((w9_6 y00 y01 y02 y03 y04) : Int32) = (w9_5 y00 y01 y02 y03) from if_neg hc53_10]
      exact Mx.here X9 e9
  refine k_go K st11 ?_
  refine m_iinc K X11.here hx hby #[.val (.ref a1), .val (.int (w9_6 y00 y01 y02 y03 y04)), .val (.ref bo), .val (.int (3 : Int32)), .val (.int (0 : Int32)), .val (.ref x0), .val (.ref x0), .val (.int (5 : Int32)), .val (.int (5 : Int32)), .val (.int y04)] d_prog_6_2_59 rfl rfl rfl ?_
  refine m_goto K X11.here hx hby (q := 37) d_prog_6_2_62 (by decide) rfl ?_
  refine m_iload K X11.here hx hby d_prog_6_2_37 rfl rfl ?_
  refine m_iload K X11.here hx hby d_prog_6_2_39 rfl rfl ?_
  refine m_icmpY K X11.here hx hby (q := 65) d_prog_6_2_41 (flt (by decide : ¬ ((5 : Int32) < (5 : Int32)))).2.1 (by decide) rfl ?_
  refine m_iinc K X11.here hx hby #[.val (.ref a1), .val (.int (w9_6 y00 y01 y02 y03 y04)), .val (.ref bo), .val (.int (3 : Int32)), .val (.int (1 : Int32)), .val (.ref x0), .val (.ref x0), .val (.int (5 : Int32)), .val (.int (5 : Int32)), .val (.int y04)] d_prog_6_2_65 rfl rfl rfl ?_
  refine m_goto K X11.here hx hby (q := 13) d_prog_6_2_68 (by decide) rfl ?_
  refine m_iload K X11.here hx hby d_prog_6_2_13 rfl rfl ?_
  refine m_iloadN K X11.here hx hby d_prog_6_2_15 rfl rfl ?_
  refine m_icmpN K X11.here hx hby (q := 19) d_prog_6_2_16 (tlt (by decide : (1 : Int32) < (3 : Int32))).2.1 rfl ?_
  refine m_aloadN K X11.here hx hby d_prog_6_2_19 rfl rfl rfl ?_
  refine m_iload K X11.here hx hby d_prog_6_2_20 rfl rfl ?_
  refine k_ldR K X11 hx hby hZ e11 rfl A_bo (v := (.ref x1)) (by decide) rfl d_prog_6_2_22 rfl ?_
  refine m_astore K X11.here hx hby #[.val (.ref a1), .val (.int (w9_6 y00 y01 y02 y03 y04)), .val (.ref bo), .val (.int (3 : Int32)), .val (.int (1 : Int32)), .val (.ref x1), .val (.ref x0), .val (.int (5 : Int32)), .val (.int (5 : Int32)), .val (.int y04)] d_prog_6_2_23 rfl rfl rfl ?_
  refine m_aload K X11.here hx hby d_prog_6_2_25 rfl rfl rfl ?_
  refine m_astore K X11.here hx hby #[.val (.ref a1), .val (.int (w9_6 y00 y01 y02 y03 y04)), .val (.ref bo), .val (.int (3 : Int32)), .val (.int (1 : Int32)), .val (.ref x1), .val (.ref x1), .val (.int (5 : Int32)), .val (.int (5 : Int32)), .val (.int y04)] d_prog_6_2_27 rfl rfl rfl ?_
  refine m_aload K X11.here hx hby d_prog_6_2_29 rfl rfl rfl ?_
  refine k_len K X11 hx hby hZ (5 : Int32) e11 A_x1 rfl d_prog_6_2_31 rfl ?_
  refine m_istore K X11.here hx hby #[.val (.ref a1), .val (.int (w9_6 y00 y01 y02 y03 y04)), .val (.ref bo), .val (.int (3 : Int32)), .val (.int (1 : Int32)), .val (.ref x1), .val (.ref x1), .val (.int (5 : Int32)), .val (.int (5 : Int32)), .val (.int y04)] d_prog_6_2_32 rfl rfl ?_
  refine m_iconst K X11.here hx hby (0 : Int32) d_prog_6_2_34 rfl rfl ?_
  refine m_istore K X11.here hx hby #[.val (.ref a1), .val (.int (w9_6 y00 y01 y02 y03 y04)), .val (.ref bo), .val (.int (3 : Int32)), .val (.int (1 : Int32)), .val (.ref x1), .val (.ref x1), .val (.int (5 : Int32)), .val (.int (0 : Int32)), .val (.int y04)] d_prog_6_2_35 rfl rfl ?_
  refine m_iload K X11.here hx hby d_prog_6_2_37 rfl rfl ?_
  refine m_iload K X11.here hx hby d_prog_6_2_39 rfl rfl ?_
  refine m_icmpN K X11.here hx hby (q := 44) d_prog_6_2_41 (tlt (by decide : (0 : Int32) < (5 : Int32))).2.1 rfl ?_
  refine m_aload K X11.here hx hby d_prog_6_2_44 rfl rfl rfl ?_
  refine m_iload K X11.here hx hby d_prog_6_2_46 rfl rfl ?_
  refine k_ldZ K X11 hx hby hZ e11 A_x1 (v := (.int y10)) (by decide) rfl d_prog_6_2_48 rfl ?_
  refine m_istore K X11.here hx hby #[.val (.ref a1), .val (.int (w9_6 y00 y01 y02 y03 y04)), .val (.ref bo), .val (.int (3 : Int32)), .val (.int (1 : Int32)), .val (.ref x1), .val (.ref x1), .val (.int (5 : Int32)), .val (.int (0 : Int32)), .val (.int y10)] d_prog_6_2_49 rfl rfl ?_
  refine m_iload K X11.here hx hby d_prog_6_2_51 rfl rfl ?_
  obtain ⟨T13, X13, e13, st13⟩ : Mx X11 h0 (mkF m 59 #[.val (.ref a1), .val (.int (w9_8 y00 y01 y02 y03 y04 y10)), .val (.ref bo), .val (.int (3 : Int32)), .val (.int (1 : Int32)), .val (.ref x1), .val (.ref x1), .val (.int (5 : Int32)), .val (.int (0 : Int32)), .val (.int y10)] []) (T11.setTop (mkF m 53 #[.val (.ref a1), .val (.int (w9_6 y00 y01 y02 y03 y04)), .val (.ref bo), .val (.int (3 : Int32)), .val (.int (1 : Int32)), .val (.ref x1), .val (.ref x1), .val (.int (5 : Int32)), .val (.int (0 : Int32)), .val (.int y10)] [(.int y10)])) := by
    refine Mx.with fun K => ?_
    by_cases hc53_12 : y10 = (0 : Int32)
    · refine m_ifY K X11.here hx hby (q := 59) d_prog_6_2_53 ((if0 _ _).trans (teq hc53_12).1) (by decide) rfl ?_
      rw [show ((w9_8 y00 y01 y02 y03 y04 y10) : Int32) = (w9_6 y00 y01 y02 y03 y04) from if_pos hc53_12]
      exact Mx.here X11 e11
    · refine m_ifN K X11.here hx hby (q := 56) d_prog_6_2_53 ((if0 _ _).trans (feq hc53_12).1) rfl ?_
      refine m_iinc K X11.here hx hby #[.val (.ref a1), .val (.int (w9_7 y00 y01 y02 y03 y04)), .val (.ref bo), .val (.int (3 : Int32)), .val (.int (1 : Int32)), .val (.ref x1), .val (.ref x1), .val (.int (5 : Int32)), .val (.int (0 : Int32)), .val (.int y10)] d_prog_6_2_56 rfl rfl rfl ?_
      rw [show ((w9_8 y00 y01 y02 y03 y04 y10) : Int32) = (w9_7 y00 y01 y02 y03 y04) from if_neg hc53_12]
      exact Mx.here X11 e11
  refine k_go K st13 ?_
  refine m_iinc K X13.here hx hby #[.val (.ref a1), .val (.int (w9_8 y00 y01 y02 y03 y04 y10)), .val (.ref bo), .val (.int (3 : Int32)), .val (.int (1 : Int32)), .val (.ref x1), .val (.ref x1), .val (.int (5 : Int32)), .val (.int (1 : Int32)), .val (.int y10)] d_prog_6_2_59 rfl rfl rfl ?_
  refine m_goto K X13.here hx hby (q := 37) d_prog_6_2_62 (by decide) rfl ?_
  refine m_iload K X13.here hx hby d_prog_6_2_37 rfl rfl ?_
  refine m_iload K X13.here hx hby d_prog_6_2_39 rfl rfl ?_
  refine m_icmpN K X13.here hx hby (q := 44) d_prog_6_2_41 (tlt (by decide : (1 : Int32) < (5 : Int32))).2.1 rfl ?_
  refine m_aload K X13.here hx hby d_prog_6_2_44 rfl rfl rfl ?_
  refine m_iload K X13.here hx hby d_prog_6_2_46 rfl rfl ?_
  refine k_ldZ K X13 hx hby hZ e13 A_x1 (v := (.int y11)) (by decide) rfl d_prog_6_2_48 rfl ?_
  refine m_istore K X13.here hx hby #[.val (.ref a1), .val (.int (w9_8 y00 y01 y02 y03 y04 y10)), .val (.ref bo), .val (.int (3 : Int32)), .val (.int (1 : Int32)), .val (.ref x1), .val (.ref x1), .val (.int (5 : Int32)), .val (.int (1 : Int32)), .val (.int y11)] d_prog_6_2_49 rfl rfl ?_
  refine m_iload K X13.here hx hby d_prog_6_2_51 rfl rfl ?_
  obtain ⟨T15, X15, e15, st15⟩ : Mx X13 h0 (mkF m 59 #[.val (.ref a1), .val (.int (w9_10 y00 y01 y02 y03 y04 y10 y11)), .val (.ref bo), .val (.int (3 : Int32)), .val (.int (1 : Int32)), .val (.ref x1), .val (.ref x1), .val (.int (5 : Int32)), .val (.int (1 : Int32)), .val (.int y11)] []) (T13.setTop (mkF m 53 #[.val (.ref a1), .val (.int (w9_8 y00 y01 y02 y03 y04 y10)), .val (.ref bo), .val (.int (3 : Int32)), .val (.int (1 : Int32)), .val (.ref x1), .val (.ref x1), .val (.int (5 : Int32)), .val (.int (1 : Int32)), .val (.int y11)] [(.int y11)])) := by
    refine Mx.with fun K => ?_
    by_cases hc53_14 : y11 = (0 : Int32)
    · refine m_ifY K X13.here hx hby (q := 59) d_prog_6_2_53 ((if0 _ _).trans (teq hc53_14).1) (by decide) rfl ?_
      rw [show ((w9_10 y00 y01 y02 y03 y04 y10 y11) : Int32) = (w9_8 y00 y01 y02 y03 y04 y10) from if_pos hc53_14]
      exact Mx.here X13 e13
    · refine m_ifN K X13.here hx hby (q := 56) d_prog_6_2_53 ((if0 _ _).trans (feq hc53_14).1) rfl ?_
      refine m_iinc K X13.here hx hby #[.val (.ref a1), .val (.int (w9_9 y00 y01 y02 y03 y04 y10)), .val (.ref bo), .val (.int (3 : Int32)), .val (.int (1 : Int32)), .val (.ref x1), .val (.ref x1), .val (.int (5 : Int32)), .val (.int (1 : Int32)), .val (.int y11)] d_prog_6_2_56 rfl rfl rfl ?_
      rw [show ((w9_10 y00 y01 y02 y03 y04 y10 y11) : Int32) = (w9_9 y00 y01 y02 y03 y04 y10) from if_neg hc53_14]
      exact Mx.here X13 e13
  refine k_go K st15 ?_
  refine m_iinc K X15.here hx hby #[.val (.ref a1), .val (.int (w9_10 y00 y01 y02 y03 y04 y10 y11)), .val (.ref bo), .val (.int (3 : Int32)), .val (.int (1 : Int32)), .val (.ref x1), .val (.ref x1), .val (.int (5 : Int32)), .val (.int (2 : Int32)), .val (.int y11)] d_prog_6_2_59 rfl rfl rfl ?_
  refine m_goto K X15.here hx hby (q := 37) d_prog_6_2_62 (by decide) rfl ?_
  refine m_iload K X15.here hx hby d_prog_6_2_37 rfl rfl ?_
  refine m_iload K X15.here hx hby d_prog_6_2_39 rfl rfl ?_
  refine m_icmpN K X15.here hx hby (q := 44) d_prog_6_2_41 (tlt (by decide : (2 : Int32) < (5 : Int32))).2.1 rfl ?_
  refine m_aload K X15.here hx hby d_prog_6_2_44 rfl rfl rfl ?_
  refine m_iload K X15.here hx hby d_prog_6_2_46 rfl rfl ?_
  refine k_ldZ K X15 hx hby hZ e15 A_x1 (v := (.int y12)) (by decide) rfl d_prog_6_2_48 rfl ?_
  refine m_istore K X15.here hx hby #[.val (.ref a1), .val (.int (w9_10 y00 y01 y02 y03 y04 y10 y11)), .val (.ref bo), .val (.int (3 : Int32)), .val (.int (1 : Int32)), .val (.ref x1), .val (.ref x1), .val (.int (5 : Int32)), .val (.int (2 : Int32)), .val (.int y12)] d_prog_6_2_49 rfl rfl ?_
  refine m_iload K X15.here hx hby d_prog_6_2_51 rfl rfl ?_
  obtain ⟨T17, X17, e17, st17⟩ : Mx X15 h0 (mkF m 59 #[.val (.ref a1), .val (.int (w9_12 y00 y01 y02 y03 y04 y10 y11 y12)), .val (.ref bo), .val (.int (3 : Int32)), .val (.int (1 : Int32)), .val (.ref x1), .val (.ref x1), .val (.int (5 : Int32)), .val (.int (2 : Int32)), .val (.int y12)] []) (T15.setTop (mkF m 53 #[.val (.ref a1), .val (.int (w9_10 y00 y01 y02 y03 y04 y10 y11)), .val (.ref bo), .val (.int (3 : Int32)), .val (.int (1 : Int32)), .val (.ref x1), .val (.ref x1), .val (.int (5 : Int32)), .val (.int (2 : Int32)), .val (.int y12)] [(.int y12)])) := by
    refine Mx.with fun K => ?_
    by_cases hc53_16 : y12 = (0 : Int32)
    · refine m_ifY K X15.here hx hby (q := 59) d_prog_6_2_53 ((if0 _ _).trans (teq hc53_16).1) (by decide) rfl ?_
      rw [show ((w9_12 y00 y01 y02 y03 y04 y10 y11 y12) : Int32) = (w9_10 y00 y01 y02 y03 y04 y10 y11) from if_pos hc53_16]
      exact Mx.here X15 e15
    · refine m_ifN K X15.here hx hby (q := 56) d_prog_6_2_53 ((if0 _ _).trans (feq hc53_16).1) rfl ?_
      refine m_iinc K X15.here hx hby #[.val (.ref a1), .val (.int (w9_11 y00 y01 y02 y03 y04 y10 y11)), .val (.ref bo), .val (.int (3 : Int32)), .val (.int (1 : Int32)), .val (.ref x1), .val (.ref x1), .val (.int (5 : Int32)), .val (.int (2 : Int32)), .val (.int y12)] d_prog_6_2_56 rfl rfl rfl ?_
      rw [show ((w9_12 y00 y01 y02 y03 y04 y10 y11 y12) : Int32) = (w9_11 y00 y01 y02 y03 y04 y10 y11) from if_neg hc53_16]
      exact Mx.here X15 e15
  refine k_go K st17 ?_
  refine m_iinc K X17.here hx hby #[.val (.ref a1), .val (.int (w9_12 y00 y01 y02 y03 y04 y10 y11 y12)), .val (.ref bo), .val (.int (3 : Int32)), .val (.int (1 : Int32)), .val (.ref x1), .val (.ref x1), .val (.int (5 : Int32)), .val (.int (3 : Int32)), .val (.int y12)] d_prog_6_2_59 rfl rfl rfl ?_
  refine m_goto K X17.here hx hby (q := 37) d_prog_6_2_62 (by decide) rfl ?_
  refine m_iload K X17.here hx hby d_prog_6_2_37 rfl rfl ?_
  refine m_iload K X17.here hx hby d_prog_6_2_39 rfl rfl ?_
  refine m_icmpN K X17.here hx hby (q := 44) d_prog_6_2_41 (tlt (by decide : (3 : Int32) < (5 : Int32))).2.1 rfl ?_
  refine m_aload K X17.here hx hby d_prog_6_2_44 rfl rfl rfl ?_
  refine m_iload K X17.here hx hby d_prog_6_2_46 rfl rfl ?_
  refine k_ldZ K X17 hx hby hZ e17 A_x1 (v := (.int y13)) (by decide) rfl d_prog_6_2_48 rfl ?_
  refine m_istore K X17.here hx hby #[.val (.ref a1), .val (.int (w9_12 y00 y01 y02 y03 y04 y10 y11 y12)), .val (.ref bo), .val (.int (3 : Int32)), .val (.int (1 : Int32)), .val (.ref x1), .val (.ref x1), .val (.int (5 : Int32)), .val (.int (3 : Int32)), .val (.int y13)] d_prog_6_2_49 rfl rfl ?_
  refine m_iload K X17.here hx hby d_prog_6_2_51 rfl rfl ?_
  obtain ⟨T19, X19, e19, st19⟩ : Mx X17 h0 (mkF m 59 #[.val (.ref a1), .val (.int (w9_14 y00 y01 y02 y03 y04 y10 y11 y12 y13)), .val (.ref bo), .val (.int (3 : Int32)), .val (.int (1 : Int32)), .val (.ref x1), .val (.ref x1), .val (.int (5 : Int32)), .val (.int (3 : Int32)), .val (.int y13)] []) (T17.setTop (mkF m 53 #[.val (.ref a1), .val (.int (w9_12 y00 y01 y02 y03 y04 y10 y11 y12)), .val (.ref bo), .val (.int (3 : Int32)), .val (.int (1 : Int32)), .val (.ref x1), .val (.ref x1), .val (.int (5 : Int32)), .val (.int (3 : Int32)), .val (.int y13)] [(.int y13)])) := by
    refine Mx.with fun K => ?_
    by_cases hc53_18 : y13 = (0 : Int32)
    · refine m_ifY K X17.here hx hby (q := 59) d_prog_6_2_53 ((if0 _ _).trans (teq hc53_18).1) (by decide) rfl ?_
      rw [show ((w9_14 y00 y01 y02 y03 y04 y10 y11 y12 y13) : Int32) = (w9_12 y00 y01 y02 y03 y04 y10 y11 y12) from if_pos hc53_18]
      exact Mx.here X17 e17
    · refine m_ifN K X17.here hx hby (q := 56) d_prog_6_2_53 ((if0 _ _).trans (feq hc53_18).1) rfl ?_
      refine m_iinc K X17.here hx hby #[.val (.ref a1), .val (.int (w9_13 y00 y01 y02 y03 y04 y10 y11 y12)), .val (.ref bo), .val (.int (3 : Int32)), .val (.int (1 : Int32)), .val (.ref x1), .val (.ref x1), .val (.int (5 : Int32)), .val (.int (3 : Int32)), .val (.int y13)] d_prog_6_2_56 rfl rfl rfl ?_
      rw [show ((w9_14 y00 y01 y02 y03 y04 y10 y11 y12 y13) : Int32) = (w9_13 y00 y01 y02 y03 y04 y10 y11 y12) from if_neg hc53_18]
      exact Mx.here X17 e17
  refine k_go K st19 ?_
  refine m_iinc K X19.here hx hby #[.val (.ref a1), .val (.int (w9_14 y00 y01 y02 y03 y04 y10 y11 y12 y13)), .val (.ref bo), .val (.int (3 : Int32)), .val (.int (1 : Int32)), .val (.ref x1), .val (.ref x1), .val (.int (5 : Int32)), .val (.int (4 : Int32)), .val (.int y13)] d_prog_6_2_59 rfl rfl rfl ?_
  refine m_goto K X19.here hx hby (q := 37) d_prog_6_2_62 (by decide) rfl ?_
  refine m_iload K X19.here hx hby d_prog_6_2_37 rfl rfl ?_
  refine m_iload K X19.here hx hby d_prog_6_2_39 rfl rfl ?_
  refine m_icmpN K X19.here hx hby (q := 44) d_prog_6_2_41 (tlt (by decide : (4 : Int32) < (5 : Int32))).2.1 rfl ?_
  refine m_aload K X19.here hx hby d_prog_6_2_44 rfl rfl rfl ?_
  refine m_iload K X19.here hx hby d_prog_6_2_46 rfl rfl ?_
  refine k_ldZ K X19 hx hby hZ e19 A_x1 (v := (.int y14)) (by decide) rfl d_prog_6_2_48 rfl ?_
  refine m_istore K X19.here hx hby #[.val (.ref a1), .val (.int (w9_14 y00 y01 y02 y03 y04 y10 y11 y12 y13)), .val (.ref bo), .val (.int (3 : Int32)), .val (.int (1 : Int32)), .val (.ref x1), .val (.ref x1), .val (.int (5 : Int32)), .val (.int (4 : Int32)), .val (.int y14)] d_prog_6_2_49 rfl rfl ?_
  refine m_iload K X19.here hx hby d_prog_6_2_51 rfl rfl ?_
  obtain ⟨T21, X21, e21, st21⟩ : Mx X19 h0 (mkF m 59 #[.val (.ref a1), .val (.int (w9_16 y00 y01 y02 y03 y04 y10 y11 y12 y13 y14)), .val (.ref bo), .val (.int (3 : Int32)), .val (.int (1 : Int32)), .val (.ref x1), .val (.ref x1), .val (.int (5 : Int32)), .val (.int (4 : Int32)), .val (.int y14)] []) (T19.setTop (mkF m 53 #[.val (.ref a1), .val (.int (w9_14 y00 y01 y02 y03 y04 y10 y11 y12 y13)), .val (.ref bo), .val (.int (3 : Int32)), .val (.int (1 : Int32)), .val (.ref x1), .val (.ref x1), .val (.int (5 : Int32)), .val (.int (4 : Int32)), .val (.int y14)] [(.int y14)])) := by
    refine Mx.with fun K => ?_
    by_cases hc53_20 : y14 = (0 : Int32)
    · refine m_ifY K X19.here hx hby (q := 59) d_prog_6_2_53 ((if0 _ _).trans (teq hc53_20).1) (by decide) rfl ?_
      rw [show ((w9_16 y00 y01 y02 y03 y04 y10 y11 y12 y13 y14) : Int32) = (w9_14 y00 y01 y02 y03 y04 y10 y11 y12 y13) from if_pos hc53_20]
      exact Mx.here X19 e19
    · refine m_ifN K X19.here hx hby (q := 56) d_prog_6_2_53 ((if0 _ _).trans (feq hc53_20).1) rfl ?_
      refine m_iinc K X19.here hx hby #[.val (.ref a1), .val (.int (w9_15 y00 y01 y02 y03 y04 y10 y11 y12 y13)), .val (.ref bo), .val (.int (3 : Int32)), .val (.int (1 : Int32)), .val (.ref x1), .val (.ref x1), .val (.int (5 : Int32)), .val (.int (4 : Int32)), .val (.int y14)] d_prog_6_2_56 rfl rfl rfl ?_
      rw [show ((w9_16 y00 y01 y02 y03 y04 y10 y11 y12 y13 y14) : Int32) = (w9_15 y00 y01 y02 y03 y04 y10 y11 y12 y13) from if_neg hc53_20]
      exact Mx.here X19 e19
  refine k_go K st21 ?_
  refine m_iinc K X21.here hx hby #[.val (.ref a1), .val (.int (w9_16 y00 y01 y02 y03 y04 y10 y11 y12 y13 y14)), .val (.ref bo), .val (.int (3 : Int32)), .val (.int (1 : Int32)), .val (.ref x1), .val (.ref x1), .val (.int (5 : Int32)), .val (.int (5 : Int32)), .val (.int y14)] d_prog_6_2_59 rfl rfl rfl ?_
  refine m_goto K X21.here hx hby (q := 37) d_prog_6_2_62 (by decide) rfl ?_
  refine m_iload K X21.here hx hby d_prog_6_2_37 rfl rfl ?_
  refine m_iload K X21.here hx hby d_prog_6_2_39 rfl rfl ?_
  refine m_icmpY K X21.here hx hby (q := 65) d_prog_6_2_41 (flt (by decide : ¬ ((5 : Int32) < (5 : Int32)))).2.1 (by decide) rfl ?_
  refine m_iinc K X21.here hx hby #[.val (.ref a1), .val (.int (w9_16 y00 y01 y02 y03 y04 y10 y11 y12 y13 y14)), .val (.ref bo), .val (.int (3 : Int32)), .val (.int (2 : Int32)), .val (.ref x1), .val (.ref x1), .val (.int (5 : Int32)), .val (.int (5 : Int32)), .val (.int y14)] d_prog_6_2_65 rfl rfl rfl ?_
  refine m_goto K X21.here hx hby (q := 13) d_prog_6_2_68 (by decide) rfl ?_
  refine m_iload K X21.here hx hby d_prog_6_2_13 rfl rfl ?_
  refine m_iloadN K X21.here hx hby d_prog_6_2_15 rfl rfl ?_
  refine m_icmpN K X21.here hx hby (q := 19) d_prog_6_2_16 (tlt (by decide : (2 : Int32) < (3 : Int32))).2.1 rfl ?_
  refine m_aloadN K X21.here hx hby d_prog_6_2_19 rfl rfl rfl ?_
  refine m_iload K X21.here hx hby d_prog_6_2_20 rfl rfl ?_
  refine k_ldR K X21 hx hby hZ e21 rfl A_bo (v := (.ref x2)) (by decide) rfl d_prog_6_2_22 rfl ?_
  refine m_astore K X21.here hx hby #[.val (.ref a1), .val (.int (w9_16 y00 y01 y02 y03 y04 y10 y11 y12 y13 y14)), .val (.ref bo), .val (.int (3 : Int32)), .val (.int (2 : Int32)), .val (.ref x2), .val (.ref x1), .val (.int (5 : Int32)), .val (.int (5 : Int32)), .val (.int y14)] d_prog_6_2_23 rfl rfl rfl ?_
  refine m_aload K X21.here hx hby d_prog_6_2_25 rfl rfl rfl ?_
  refine m_astore K X21.here hx hby #[.val (.ref a1), .val (.int (w9_16 y00 y01 y02 y03 y04 y10 y11 y12 y13 y14)), .val (.ref bo), .val (.int (3 : Int32)), .val (.int (2 : Int32)), .val (.ref x2), .val (.ref x2), .val (.int (5 : Int32)), .val (.int (5 : Int32)), .val (.int y14)] d_prog_6_2_27 rfl rfl rfl ?_
  refine m_aload K X21.here hx hby d_prog_6_2_29 rfl rfl rfl ?_
  refine k_len K X21 hx hby hZ (5 : Int32) e21 A_x2 rfl d_prog_6_2_31 rfl ?_
  refine m_istore K X21.here hx hby #[.val (.ref a1), .val (.int (w9_16 y00 y01 y02 y03 y04 y10 y11 y12 y13 y14)), .val (.ref bo), .val (.int (3 : Int32)), .val (.int (2 : Int32)), .val (.ref x2), .val (.ref x2), .val (.int (5 : Int32)), .val (.int (5 : Int32)), .val (.int y14)] d_prog_6_2_32 rfl rfl ?_
  refine m_iconst K X21.here hx hby (0 : Int32) d_prog_6_2_34 rfl rfl ?_
  refine m_istore K X21.here hx hby #[.val (.ref a1), .val (.int (w9_16 y00 y01 y02 y03 y04 y10 y11 y12 y13 y14)), .val (.ref bo), .val (.int (3 : Int32)), .val (.int (2 : Int32)), .val (.ref x2), .val (.ref x2), .val (.int (5 : Int32)), .val (.int (0 : Int32)), .val (.int y14)] d_prog_6_2_35 rfl rfl ?_
  refine m_iload K X21.here hx hby d_prog_6_2_37 rfl rfl ?_
  refine m_iload K X21.here hx hby d_prog_6_2_39 rfl rfl ?_
  refine m_icmpN K X21.here hx hby (q := 44) d_prog_6_2_41 (tlt (by decide : (0 : Int32) < (5 : Int32))).2.1 rfl ?_
  refine m_aload K X21.here hx hby d_prog_6_2_44 rfl rfl rfl ?_
  refine m_iload K X21.here hx hby d_prog_6_2_46 rfl rfl ?_
  refine k_ldZ K X21 hx hby hZ e21 A_x2 (v := (.int y20)) (by decide) rfl d_prog_6_2_48 rfl ?_
  refine m_istore K X21.here hx hby #[.val (.ref a1), .val (.int (w9_16 y00 y01 y02 y03 y04 y10 y11 y12 y13 y14)), .val (.ref bo), .val (.int (3 : Int32)), .val (.int (2 : Int32)), .val (.ref x2), .val (.ref x2), .val (.int (5 : Int32)), .val (.int (0 : Int32)), .val (.int y20)] d_prog_6_2_49 rfl rfl ?_
  refine m_iload K X21.here hx hby d_prog_6_2_51 rfl rfl ?_
  obtain ⟨T23, X23, e23, st23⟩ : Mx X21 h0 (mkF m 59 #[.val (.ref a1), .val (.int (w9_18 y00 y01 y02 y03 y04 y10 y11 y12 y13 y14 y20)), .val (.ref bo), .val (.int (3 : Int32)), .val (.int (2 : Int32)), .val (.ref x2), .val (.ref x2), .val (.int (5 : Int32)), .val (.int (0 : Int32)), .val (.int y20)] []) (T21.setTop (mkF m 53 #[.val (.ref a1), .val (.int (w9_16 y00 y01 y02 y03 y04 y10 y11 y12 y13 y14)), .val (.ref bo), .val (.int (3 : Int32)), .val (.int (2 : Int32)), .val (.ref x2), .val (.ref x2), .val (.int (5 : Int32)), .val (.int (0 : Int32)), .val (.int y20)] [(.int y20)])) := by
    refine Mx.with fun K => ?_
    by_cases hc53_22 : y20 = (0 : Int32)
    · refine m_ifY K X21.here hx hby (q := 59) d_prog_6_2_53 ((if0 _ _).trans (teq hc53_22).1) (by decide) rfl ?_
      rw [show ((w9_18 y00 y01 y02 y03 y04 y10 y11 y12 y13 y14 y20) : Int32) = (w9_16 y00 y01 y02 y03 y04 y10 y11 y12 y13 y14) from if_pos hc53_22]
      exact Mx.here X21 e21
    · refine m_ifN K X21.here hx hby (q := 56) d_prog_6_2_53 ((if0 _ _).trans (feq hc53_22).1) rfl ?_
      refine m_iinc K X21.here hx hby #[.val (.ref a1), .val (.int (w9_17 y00 y01 y02 y03 y04 y10 y11 y12 y13 y14)), .val (.ref bo), .val (.int (3 : Int32)), .val (.int (2 : Int32)), .val (.ref x2), .val (.ref x2), .val (.int (5 : Int32)), .val (.int (0 : Int32)), .val (.int y20)] d_prog_6_2_56 rfl rfl rfl ?_
      rw [show ((w9_18 y00 y01 y02 y03 y04 y10 y11 y12 y13 y14 y20) : Int32) = (w9_17 y00 y01 y02 y03 y04 y10 y11 y12 y13 y14) from if_neg hc53_22]
      exact Mx.here X21 e21
  refine k_go K st23 ?_
  refine m_iinc K X23.here hx hby #[.val (.ref a1), .val (.int (w9_18 y00 y01 y02 y03 y04 y10 y11 y12 y13 y14 y20)), .val (.ref bo), .val (.int (3 : Int32)), .val (.int (2 : Int32)), .val (.ref x2), .val (.ref x2), .val (.int (5 : Int32)), .val (.int (1 : Int32)), .val (.int y20)] d_prog_6_2_59 rfl rfl rfl ?_
  refine m_goto K X23.here hx hby (q := 37) d_prog_6_2_62 (by decide) rfl ?_
  refine m_iload K X23.here hx hby d_prog_6_2_37 rfl rfl ?_
  refine m_iload K X23.here hx hby d_prog_6_2_39 rfl rfl ?_
  refine m_icmpN K X23.here hx hby (q := 44) d_prog_6_2_41 (tlt (by decide : (1 : Int32) < (5 : Int32))).2.1 rfl ?_
  refine m_aload K X23.here hx hby d_prog_6_2_44 rfl rfl rfl ?_
  refine m_iload K X23.here hx hby d_prog_6_2_46 rfl rfl ?_
  refine k_ldZ K X23 hx hby hZ e23 A_x2 (v := (.int y21)) (by decide) rfl d_prog_6_2_48 rfl ?_
  refine m_istore K X23.here hx hby #[.val (.ref a1), .val (.int (w9_18 y00 y01 y02 y03 y04 y10 y11 y12 y13 y14 y20)), .val (.ref bo), .val (.int (3 : Int32)), .val (.int (2 : Int32)), .val (.ref x2), .val (.ref x2), .val (.int (5 : Int32)), .val (.int (1 : Int32)), .val (.int y21)] d_prog_6_2_49 rfl rfl ?_
  refine m_iload K X23.here hx hby d_prog_6_2_51 rfl rfl ?_
  obtain ⟨T25, X25, e25, st25⟩ : Mx X23 h0 (mkF m 59 #[.val (.ref a1), .val (.int (w9_20 y00 y01 y02 y03 y04 y10 y11 y12 y13 y14 y20 y21)), .val (.ref bo), .val (.int (3 : Int32)), .val (.int (2 : Int32)), .val (.ref x2), .val (.ref x2), .val (.int (5 : Int32)), .val (.int (1 : Int32)), .val (.int y21)] []) (T23.setTop (mkF m 53 #[.val (.ref a1), .val (.int (w9_18 y00 y01 y02 y03 y04 y10 y11 y12 y13 y14 y20)), .val (.ref bo), .val (.int (3 : Int32)), .val (.int (2 : Int32)), .val (.ref x2), .val (.ref x2), .val (.int (5 : Int32)), .val (.int (1 : Int32)), .val (.int y21)] [(.int y21)])) := by
    refine Mx.with fun K => ?_
    by_cases hc53_24 : y21 = (0 : Int32)
    · refine m_ifY K X23.here hx hby (q := 59) d_prog_6_2_53 ((if0 _ _).trans (teq hc53_24).1) (by decide) rfl ?_
      rw [show ((w9_20 y00 y01 y02 y03 y04 y10 y11 y12 y13 y14 y20 y21) : Int32) = (w9_18 y00 y01 y02 y03 y04 y10 y11 y12 y13 y14 y20) from if_pos hc53_24]
      exact Mx.here X23 e23
    · refine m_ifN K X23.here hx hby (q := 56) d_prog_6_2_53 ((if0 _ _).trans (feq hc53_24).1) rfl ?_
      refine m_iinc K X23.here hx hby #[.val (.ref a1), .val (.int (w9_19 y00 y01 y02 y03 y04 y10 y11 y12 y13 y14 y20)), .val (.ref bo), .val (.int (3 : Int32)), .val (.int (2 : Int32)), .val (.ref x2), .val (.ref x2), .val (.int (5 : Int32)), .val (.int (1 : Int32)), .val (.int y21)] d_prog_6_2_56 rfl rfl rfl ?_
      rw [show ((w9_20 y00 y01 y02 y03 y04 y10 y11 y12 y13 y14 y20 y21) : Int32) = (w9_19 y00 y01 y02 y03 y04 y10 y11 y12 y13 y14 y20) from if_neg hc53_24]
      exact Mx.here X23 e23
  refine k_go K st25 ?_
  refine m_iinc K X25.here hx hby #[.val (.ref a1), .val (.int (w9_20 y00 y01 y02 y03 y04 y10 y11 y12 y13 y14 y20 y21)), .val (.ref bo), .val (.int (3 : Int32)), .val (.int (2 : Int32)), .val (.ref x2), .val (.ref x2), .val (.int (5 : Int32)), .val (.int (2 : Int32)), .val (.int y21)] d_prog_6_2_59 rfl rfl rfl ?_
  refine m_goto K X25.here hx hby (q := 37) d_prog_6_2_62 (by decide) rfl ?_
  refine m_iload K X25.here hx hby d_prog_6_2_37 rfl rfl ?_
  refine m_iload K X25.here hx hby d_prog_6_2_39 rfl rfl ?_
  refine m_icmpN K X25.here hx hby (q := 44) d_prog_6_2_41 (tlt (by decide : (2 : Int32) < (5 : Int32))).2.1 rfl ?_
  refine m_aload K X25.here hx hby d_prog_6_2_44 rfl rfl rfl ?_
  refine m_iload K X25.here hx hby d_prog_6_2_46 rfl rfl ?_
  refine k_ldZ K X25 hx hby hZ e25 A_x2 (v := (.int y22)) (by decide) rfl d_prog_6_2_48 rfl ?_
  refine m_istore K X25.here hx hby #[.val (.ref a1), .val (.int (w9_20 y00 y01 y02 y03 y04 y10 y11 y12 y13 y14 y20 y21)), .val (.ref bo), .val (.int (3 : Int32)), .val (.int (2 : Int32)), .val (.ref x2), .val (.ref x2), .val (.int (5 : Int32)), .val (.int (2 : Int32)), .val (.int y22)] d_prog_6_2_49 rfl rfl ?_
  refine m_iload K X25.here hx hby d_prog_6_2_51 rfl rfl ?_
  obtain ⟨T27, X27, e27, st27⟩ : Mx X25 h0 (mkF m 59 #[.val (.ref a1), .val (.int (w9_22 y00 y01 y02 y03 y04 y10 y11 y12 y13 y14 y20 y21 y22)), .val (.ref bo), .val (.int (3 : Int32)), .val (.int (2 : Int32)), .val (.ref x2), .val (.ref x2), .val (.int (5 : Int32)), .val (.int (2 : Int32)), .val (.int y22)] []) (T25.setTop (mkF m 53 #[.val (.ref a1), .val (.int (w9_20 y00 y01 y02 y03 y04 y10 y11 y12 y13 y14 y20 y21)), .val (.ref bo), .val (.int (3 : Int32)), .val (.int (2 : Int32)), .val (.ref x2), .val (.ref x2), .val (.int (5 : Int32)), .val (.int (2 : Int32)), .val (.int y22)] [(.int y22)])) := by
    refine Mx.with fun K => ?_
    by_cases hc53_26 : y22 = (0 : Int32)
    · refine m_ifY K X25.here hx hby (q := 59) d_prog_6_2_53 ((if0 _ _).trans (teq hc53_26).1) (by decide) rfl ?_
      rw [show ((w9_22 y00 y01 y02 y03 y04 y10 y11 y12 y13 y14 y20 y21 y22) : Int32) = (w9_20 y00 y01 y02 y03 y04 y10 y11 y12 y13 y14 y20 y21) from if_pos hc53_26]
      exact Mx.here X25 e25
    · refine m_ifN K X25.here hx hby (q := 56) d_prog_6_2_53 ((if0 _ _).trans (feq hc53_26).1) rfl ?_
      refine m_iinc K X25.here hx hby #[.val (.ref a1), .val (.int (w9_21 y00 y01 y02 y03 y04 y10 y11 y12 y13 y14 y20 y21)), .val (.ref bo), .val (.int (3 : Int32)), .val (.int (2 : Int32)), .val (.ref x2), .val (.ref x2), .val (.int (5 : Int32)), .val (.int (2 : Int32)), .val (.int y22)] d_prog_6_2_56 rfl rfl rfl ?_
      rw [show ((w9_22 y00 y01 y02 y03 y04 y10 y11 y12 y13 y14 y20 y21 y22) : Int32) = (w9_21 y00 y01 y02 y03 y04 y10 y11 y12 y13 y14 y20 y21) from if_neg hc53_26]
      exact Mx.here X25 e25
  refine k_go K st27 ?_
  refine m_iinc K X27.here hx hby #[.val (.ref a1), .val (.int (w9_22 y00 y01 y02 y03 y04 y10 y11 y12 y13 y14 y20 y21 y22)), .val (.ref bo), .val (.int (3 : Int32)), .val (.int (2 : Int32)), .val (.ref x2), .val (.ref x2), .val (.int (5 : Int32)), .val (.int (3 : Int32)), .val (.int y22)] d_prog_6_2_59 rfl rfl rfl ?_
  refine m_goto K X27.here hx hby (q := 37) d_prog_6_2_62 (by decide) rfl ?_
  refine m_iload K X27.here hx hby d_prog_6_2_37 rfl rfl ?_
  refine m_iload K X27.here hx hby d_prog_6_2_39 rfl rfl ?_
  refine m_icmpN K X27.here hx hby (q := 44) d_prog_6_2_41 (tlt (by decide : (3 : Int32) < (5 : Int32))).2.1 rfl ?_
  refine m_aload K X27.here hx hby d_prog_6_2_44 rfl rfl rfl ?_
  refine m_iload K X27.here hx hby d_prog_6_2_46 rfl rfl ?_
  refine k_ldZ K X27 hx hby hZ e27 A_x2 (v := (.int y23)) (by decide) rfl d_prog_6_2_48 rfl ?_
  refine m_istore K X27.here hx hby #[.val (.ref a1), .val (.int (w9_22 y00 y01 y02 y03 y04 y10 y11 y12 y13 y14 y20 y21 y22)), .val (.ref bo), .val (.int (3 : Int32)), .val (.int (2 : Int32)), .val (.ref x2), .val (.ref x2), .val (.int (5 : Int32)), .val (.int (3 : Int32)), .val (.int y23)] d_prog_6_2_49 rfl rfl ?_
  refine m_iload K X27.here hx hby d_prog_6_2_51 rfl rfl ?_
  obtain ⟨T29, X29, e29, st29⟩ : Mx X27 h0 (mkF m 59 #[.val (.ref a1), .val (.int (w9_24 y00 y01 y02 y03 y04 y10 y11 y12 y13 y14 y20 y21 y22 y23)), .val (.ref bo), .val (.int (3 : Int32)), .val (.int (2 : Int32)), .val (.ref x2), .val (.ref x2), .val (.int (5 : Int32)), .val (.int (3 : Int32)), .val (.int y23)] []) (T27.setTop (mkF m 53 #[.val (.ref a1), .val (.int (w9_22 y00 y01 y02 y03 y04 y10 y11 y12 y13 y14 y20 y21 y22)), .val (.ref bo), .val (.int (3 : Int32)), .val (.int (2 : Int32)), .val (.ref x2), .val (.ref x2), .val (.int (5 : Int32)), .val (.int (3 : Int32)), .val (.int y23)] [(.int y23)])) := by
    refine Mx.with fun K => ?_
    by_cases hc53_28 : y23 = (0 : Int32)
    · refine m_ifY K X27.here hx hby (q := 59) d_prog_6_2_53 ((if0 _ _).trans (teq hc53_28).1) (by decide) rfl ?_
      rw [show ((w9_24 y00 y01 y02 y03 y04 y10 y11 y12 y13 y14 y20 y21 y22 y23) : Int32) = (w9_22 y00 y01 y02 y03 y04 y10 y11 y12 y13 y14 y20 y21 y22) from if_pos hc53_28]
      exact Mx.here X27 e27
    · refine m_ifN K X27.here hx hby (q := 56) d_prog_6_2_53 ((if0 _ _).trans (feq hc53_28).1) rfl ?_
      refine m_iinc K X27.here hx hby #[.val (.ref a1), .val (.int (w9_23 y00 y01 y02 y03 y04 y10 y11 y12 y13 y14 y20 y21 y22)), .val (.ref bo), .val (.int (3 : Int32)), .val (.int (2 : Int32)), .val (.ref x2), .val (.ref x2), .val (.int (5 : Int32)), .val (.int (3 : Int32)), .val (.int y23)] d_prog_6_2_56 rfl rfl rfl ?_
      rw [show ((w9_24 y00 y01 y02 y03 y04 y10 y11 y12 y13 y14 y20 y21 y22 y23) : Int32) = (w9_23 y00 y01 y02 y03 y04 y10 y11 y12 y13 y14 y20 y21 y22) from if_neg hc53_28]
      exact Mx.here X27 e27
  refine k_go K st29 ?_
  refine m_iinc K X29.here hx hby #[.val (.ref a1), .val (.int (w9_24 y00 y01 y02 y03 y04 y10 y11 y12 y13 y14 y20 y21 y22 y23)), .val (.ref bo), .val (.int (3 : Int32)), .val (.int (2 : Int32)), .val (.ref x2), .val (.ref x2), .val (.int (5 : Int32)), .val (.int (4 : Int32)), .val (.int y23)] d_prog_6_2_59 rfl rfl rfl ?_
  refine m_goto K X29.here hx hby (q := 37) d_prog_6_2_62 (by decide) rfl ?_
  refine m_iload K X29.here hx hby d_prog_6_2_37 rfl rfl ?_
  refine m_iload K X29.here hx hby d_prog_6_2_39 rfl rfl ?_
  refine m_icmpN K X29.here hx hby (q := 44) d_prog_6_2_41 (tlt (by decide : (4 : Int32) < (5 : Int32))).2.1 rfl ?_
  refine m_aload K X29.here hx hby d_prog_6_2_44 rfl rfl rfl ?_
  refine m_iload K X29.here hx hby d_prog_6_2_46 rfl rfl ?_
  refine k_ldZ K X29 hx hby hZ e29 A_x2 (v := (.int y24)) (by decide) rfl d_prog_6_2_48 rfl ?_
  refine m_istore K X29.here hx hby #[.val (.ref a1), .val (.int (w9_24 y00 y01 y02 y03 y04 y10 y11 y12 y13 y14 y20 y21 y22 y23)), .val (.ref bo), .val (.int (3 : Int32)), .val (.int (2 : Int32)), .val (.ref x2), .val (.ref x2), .val (.int (5 : Int32)), .val (.int (4 : Int32)), .val (.int y24)] d_prog_6_2_49 rfl rfl ?_
  refine m_iload K X29.here hx hby d_prog_6_2_51 rfl rfl ?_
  obtain ⟨T31, X31, e31, st31⟩ : Mx X29 h0 (mkF m 59 #[.val (.ref a1), .val (.int (w9_26 y00 y01 y02 y03 y04 y10 y11 y12 y13 y14 y20 y21 y22 y23 y24)), .val (.ref bo), .val (.int (3 : Int32)), .val (.int (2 : Int32)), .val (.ref x2), .val (.ref x2), .val (.int (5 : Int32)), .val (.int (4 : Int32)), .val (.int y24)] []) (T29.setTop (mkF m 53 #[.val (.ref a1), .val (.int (w9_24 y00 y01 y02 y03 y04 y10 y11 y12 y13 y14 y20 y21 y22 y23)), .val (.ref bo), .val (.int (3 : Int32)), .val (.int (2 : Int32)), .val (.ref x2), .val (.ref x2), .val (.int (5 : Int32)), .val (.int (4 : Int32)), .val (.int y24)] [(.int y24)])) := by
    refine Mx.with fun K => ?_
    by_cases hc53_30 : y24 = (0 : Int32)
    · refine m_ifY K X29.here hx hby (q := 59) d_prog_6_2_53 ((if0 _ _).trans (teq hc53_30).1) (by decide) rfl ?_
      rw [show ((w9_26 y00 y01 y02 y03 y04 y10 y11 y12 y13 y14 y20 y21 y22 y23 y24) : Int32) = (w9_24 y00 y01 y02 y03 y04 y10 y11 y12 y13 y14 y20 y21 y22 y23) from if_pos hc53_30]
      exact Mx.here X29 e29
    · refine m_ifN K X29.here hx hby (q := 56) d_prog_6_2_53 ((if0 _ _).trans (feq hc53_30).1) rfl ?_
      refine m_iinc K X29.here hx hby #[.val (.ref a1), .val (.int (w9_25 y00 y01 y02 y03 y04 y10 y11 y12 y13 y14 y20 y21 y22 y23)), .val (.ref bo), .val (.int (3 : Int32)), .val (.int (2 : Int32)), .val (.ref x2), .val (.ref x2), .val (.int (5 : Int32)), .val (.int (4 : Int32)), .val (.int y24)] d_prog_6_2_56 rfl rfl rfl ?_
      rw [show ((w9_26 y00 y01 y02 y03 y04 y10 y11 y12 y13 y14 y20 y21 y22 y23 y24) : Int32) = (w9_25 y00 y01 y02 y03 y04 y10 y11 y12 y13 y14 y20 y21 y22 y23) from if_neg hc53_30]
      exact Mx.here X29 e29
  refine k_go K st31 ?_
  refine m_iinc K X31.here hx hby #[.val (.ref a1), .val (.int (w9_26 y00 y01 y02 y03 y04 y10 y11 y12 y13 y14 y20 y21 y22 y23 y24)), .val (.ref bo), .val (.int (3 : Int32)), .val (.int (2 : Int32)), .val (.ref x2), .val (.ref x2), .val (.int (5 : Int32)), .val (.int (5 : Int32)), .val (.int y24)] d_prog_6_2_59 rfl rfl rfl ?_
  refine m_goto K X31.here hx hby (q := 37) d_prog_6_2_62 (by decide) rfl ?_
  refine m_iload K X31.here hx hby d_prog_6_2_37 rfl rfl ?_
  refine m_iload K X31.here hx hby d_prog_6_2_39 rfl rfl ?_
  refine m_icmpY K X31.here hx hby (q := 65) d_prog_6_2_41 (flt (by decide : ¬ ((5 : Int32) < (5 : Int32)))).2.1 (by decide) rfl ?_
  refine m_iinc K X31.here hx hby #[.val (.ref a1), .val (.int (w9_26 y00 y01 y02 y03 y04 y10 y11 y12 y13 y14 y20 y21 y22 y23 y24)), .val (.ref bo), .val (.int (3 : Int32)), .val (.int (3 : Int32)), .val (.ref x2), .val (.ref x2), .val (.int (5 : Int32)), .val (.int (5 : Int32)), .val (.int y24)] d_prog_6_2_65 rfl rfl rfl ?_
  refine m_goto K X31.here hx hby (q := 13) d_prog_6_2_68 (by decide) rfl ?_
  refine m_iload K X31.here hx hby d_prog_6_2_13 rfl rfl ?_
  refine m_iloadN K X31.here hx hby d_prog_6_2_15 rfl rfl ?_
  refine m_icmpY K X31.here hx hby (q := 71) d_prog_6_2_16 (flt (by decide : ¬ ((3 : Int32) < (3 : Int32)))).2.1 (by decide) rfl ?_
  refine m_iloadN K X31.here hx hby d_prog_6_2_71 rfl rfl ?_
  exact Go.retI X31 hx hby hlk hret d_prog_6_2_72 (by decide) (by decide) (⟨rfl, e31, rfl⟩)
def HRV (y0 y1 y2 y3 : Int32) : Int32 := (if y0 = (0 : Int32) then (1 : Int32) else (if y1 = (0 : Int32) then (1 : Int32) else (if y2 = (0 : Int32) then (1 : Int32) else (if y3 = (0 : Int32) then (1 : Int32) else (0 : Int32)))))
theorem d_prog_6_11_0 : decode prog_6_method_11_code 0 = .ok (.iconst 0, 1) := by decide +kernel
theorem d_prog_6_11_1 : decode prog_6_method_11_code 1 = .ok (.istore_n 2, 1) := by decide +kernel
theorem d_prog_6_11_2 : decode prog_6_method_11_code 2 = .ok (.iload_n 2, 1) := by decide +kernel
theorem d_prog_6_11_3 : decode prog_6_method_11_code 3 = .ok (.iconst 4, 1) := by decide +kernel
theorem d_prog_6_11_4 : decode prog_6_method_11_code 4 = .ok (.if_icmp .ge 22, 3) := by decide +kernel
theorem d_prog_6_11_7 : decode prog_6_method_11_code 7 = .ok (.aload_n 0, 1) := by decide +kernel
theorem d_prog_6_11_8 : decode prog_6_method_11_code 8 = .ok (.getfield 11, 3) := by decide +kernel
theorem d_prog_6_11_11 : decode prog_6_method_11_code 11 = .ok (.iload_n 1, 1) := by decide +kernel
theorem d_prog_6_11_12 : decode prog_6_method_11_code 12 = .ok (.aaload, 1) := by decide +kernel
theorem d_prog_6_11_13 : decode prog_6_method_11_code 13 = .ok (.iload_n 2, 1) := by decide +kernel
theorem d_prog_6_11_14 : decode prog_6_method_11_code 14 = .ok (.baload, 1) := by decide +kernel
theorem d_prog_6_11_15 : decode prog_6_method_11_code 15 = .ok (.ifCond .ne 5, 3) := by decide +kernel
theorem d_prog_6_11_18 : decode prog_6_method_11_code 18 = .ok (.iconst 1, 1) := by decide +kernel
theorem d_prog_6_11_19 : decode prog_6_method_11_code 19 = .ok (.ireturn, 1) := by decide +kernel
theorem d_prog_6_11_20 : decode prog_6_method_11_code 20 = .ok (.iinc 2 1, 3) := by decide +kernel
theorem d_prog_6_11_23 : decode prog_6_method_11_code 23 = .ok (.goto (-21), 3) := by decide +kernel
theorem d_prog_6_11_26 : decode prog_6_method_11_code 26 = .ok (.iconst 0, 1) := by decide +kernel
theorem d_prog_6_11_27 : decode prog_6_method_11_code 27 = .ok (.ireturn, 1) := by decide +kernel
theorem ef10_0 (m : MethodId) (x0 : Addr) (x1 : Int32) : entryFrame m #[(.ref x0), (.int x1)] 3 = mkF m 0 #[.val (.ref x0), .val (.int x1), .unset] [] := by first | (simp [entryFrame, mkF, argsToLocals, Value.category]; done) | rfl
set_option maxRecDepth 65536 in
set_option maxHeartbeats 40000000 in
theorem c10_0 (l : Launch) (Z : State) (a0 : Array Value) (hw : ∀ d ∈ tables_1, d.before a0 Z = true) (a1 : Addr) (bo : Addr) (x0 : Addr) (x1 : Addr) (x2 : Addr) (y0 : Int32) (y1 : Int32) (y2 : Int32) (y3 : Int32) (y4 : Int32) (h0 : Heap) (n0 : Nat) (Z0 : n0 ≤ h0.size) (F_occupied_a1 : Fld Z h0 a1 "com/example/craterworks/craterworks/SharesStation" "occupied" "[[Z" (.ref bo)) (A_bo : Av Z h0 bo (.array .boolean) [(.ref x0), (.ref x1), (.ref x2)]) (A_x0 : Av Z h0 x0 .boolean [(.int y0), (.int y1), (.int y2), (.int y3), (.int y4)]) :
    Con l Z (⟨"com/example/craterworks/craterworks/SharesStation", "hasRoom", "(I)Z"⟩ : MethodName) prog_6_method_11_code 3 (some .boolean) ({ frames := 0, cells := 0, slots := 0, locals := 0 } : Room) [] #[(.ref a1), (.int (0 : Int32))] h0 (fun v h L => v = some (.int (HRV y0 y1 y2 y3)) ∧ h = h0 ∧ L = []) := by
  refine Con.of (plainFor_of_name pn_com_example_craterworks_craterworks_SharesStation) #[.val (.ref a1), .val (.int (0 : Int32)), .unset] (fun m => ef10_0 m a1 (0 : Int32)) ?_
  intro p e s m below meth c s₁ K hx hby hml hown hnm hret hlk hZ X0 e0
  have N0 := Fr.nil n0
  refine m_iconst K X0.here hx hby (0 : Int32) d_prog_6_11_0 rfl rfl ?_
  refine m_istoreN K X0.here hx hby #[.val (.ref a1), .val (.int (0 : Int32)), .val (.int (0 : Int32))] d_prog_6_11_1 rfl rfl ?_
  refine m_iloadN K X0.here hx hby d_prog_6_11_2 rfl rfl ?_
  refine m_iconst K X0.here hx hby (4 : Int32) d_prog_6_11_3 rfl rfl ?_
  refine m_icmpN K X0.here hx hby (q := 7) d_prog_6_11_4 (tlt (by decide : (0 : Int32) < (4 : Int32))).2.1 rfl ?_
  refine m_aloadN K X0.here hx hby d_prog_6_11_7 rfl rfl rfl ?_
  refine k_getF K X0 hx hby hZ hown (host := "") (Or.inl (hw _ (List.mem_of_getElem? (i := 38) rfl))) Via.refl e0 F_occupied_a1 d_prog_6_11_8 rfl fun T1 X1 e1 => ?_
  refine m_iloadN K X1.here hx hby d_prog_6_11_11 rfl rfl ?_
  refine k_ldR K X1 hx hby hZ e1 rfl A_bo (v := (.ref x0)) (by decide) rfl d_prog_6_11_12 rfl ?_
  refine m_iloadN K X1.here hx hby d_prog_6_11_13 rfl rfl ?_
  refine k_ldZ K X1 hx hby hZ e1 A_x0 (v := (.int y0)) (by decide) rfl d_prog_6_11_14 rfl ?_
  by_cases hc15_2 : y0 = (0 : Int32)
  · refine m_ifN K X1.here hx hby (q := 18) d_prog_6_11_15 ((if0 _ _).trans (teq hc15_2).2) rfl ?_
    refine m_iconst K X1.here hx hby (1 : Int32) d_prog_6_11_18 rfl rfl ?_
    exact Go.retN X1 hx hby hlk hret (by simp) d_prog_6_11_19 (by decide) (by decide) (by decide) (⟨congrArg (fun z => some (Value.int z)) (Eq.symm (by rw [HRV, if_pos hc15_2])), e1, rfl⟩)
  · refine m_ifY K X1.here hx hby (q := 20) d_prog_6_11_15 ((if0 _ _).trans (feq hc15_2).2) (by decide) rfl ?_
    refine m_iinc K X1.here hx hby #[.val (.ref a1), .val (.int (0 : Int32)), .val (.int (1 : Int32))] d_prog_6_11_20 rfl rfl rfl ?_
    refine m_goto K X1.here hx hby (q := 2) d_prog_6_11_23 (by decide) rfl ?_
    refine m_iloadN K X1.here hx hby d_prog_6_11_2 rfl rfl ?_
    refine m_iconst K X1.here hx hby (4 : Int32) d_prog_6_11_3 rfl rfl ?_
    refine m_icmpN K X1.here hx hby (q := 7) d_prog_6_11_4 (tlt (by decide : (1 : Int32) < (4 : Int32))).2.1 rfl ?_
    refine m_aloadN K X1.here hx hby d_prog_6_11_7 rfl rfl rfl ?_
    refine k_getF K X1 hx hby hZ hown (host := "") (Or.inl (hw _ (List.mem_of_getElem? (i := 38) rfl))) Via.refl e1 F_occupied_a1 d_prog_6_11_8 rfl fun T3 X3 e3 => ?_
    refine m_iloadN K X3.here hx hby d_prog_6_11_11 rfl rfl ?_
    refine k_ldR K X3 hx hby hZ e3 rfl A_bo (v := (.ref x0)) (by decide) rfl d_prog_6_11_12 rfl ?_
    refine m_iloadN K X3.here hx hby d_prog_6_11_13 rfl rfl ?_
    refine k_ldZ K X3 hx hby hZ e3 A_x0 (v := (.int y1)) (by decide) rfl d_prog_6_11_14 rfl ?_
    by_cases hc15_4 : y1 = (0 : Int32)
    · refine m_ifN K X3.here hx hby (q := 18) d_prog_6_11_15 ((if0 _ _).trans (teq hc15_4).2) rfl ?_
      refine m_iconst K X3.here hx hby (1 : Int32) d_prog_6_11_18 rfl rfl ?_
      exact Go.retN X3 hx hby hlk hret (by simp) d_prog_6_11_19 (by decide) (by decide) (by decide) (⟨congrArg (fun z => some (Value.int z)) (Eq.symm (by rw [HRV, if_neg hc15_2, if_pos hc15_4])), e3, rfl⟩)
    · refine m_ifY K X3.here hx hby (q := 20) d_prog_6_11_15 ((if0 _ _).trans (feq hc15_4).2) (by decide) rfl ?_
      refine m_iinc K X3.here hx hby #[.val (.ref a1), .val (.int (0 : Int32)), .val (.int (2 : Int32))] d_prog_6_11_20 rfl rfl rfl ?_
      refine m_goto K X3.here hx hby (q := 2) d_prog_6_11_23 (by decide) rfl ?_
      refine m_iloadN K X3.here hx hby d_prog_6_11_2 rfl rfl ?_
      refine m_iconst K X3.here hx hby (4 : Int32) d_prog_6_11_3 rfl rfl ?_
      refine m_icmpN K X3.here hx hby (q := 7) d_prog_6_11_4 (tlt (by decide : (2 : Int32) < (4 : Int32))).2.1 rfl ?_
      refine m_aloadN K X3.here hx hby d_prog_6_11_7 rfl rfl rfl ?_
      refine k_getF K X3 hx hby hZ hown (host := "") (Or.inl (hw _ (List.mem_of_getElem? (i := 38) rfl))) Via.refl e3 F_occupied_a1 d_prog_6_11_8 rfl fun T5 X5 e5 => ?_
      refine m_iloadN K X5.here hx hby d_prog_6_11_11 rfl rfl ?_
      refine k_ldR K X5 hx hby hZ e5 rfl A_bo (v := (.ref x0)) (by decide) rfl d_prog_6_11_12 rfl ?_
      refine m_iloadN K X5.here hx hby d_prog_6_11_13 rfl rfl ?_
      refine k_ldZ K X5 hx hby hZ e5 A_x0 (v := (.int y2)) (by decide) rfl d_prog_6_11_14 rfl ?_
      by_cases hc15_6 : y2 = (0 : Int32)
      · refine m_ifN K X5.here hx hby (q := 18) d_prog_6_11_15 ((if0 _ _).trans (teq hc15_6).2) rfl ?_
        refine m_iconst K X5.here hx hby (1 : Int32) d_prog_6_11_18 rfl rfl ?_
        exact Go.retN X5 hx hby hlk hret (by simp) d_prog_6_11_19 (by decide) (by decide) (by decide) (⟨congrArg (fun z => some (Value.int z)) (Eq.symm (by rw [HRV, if_neg hc15_2, if_neg hc15_4, if_pos hc15_6])), e5, rfl⟩)
      · refine m_ifY K X5.here hx hby (q := 20) d_prog_6_11_15 ((if0 _ _).trans (feq hc15_6).2) (by decide) rfl ?_
        refine m_iinc K X5.here hx hby #[.val (.ref a1), .val (.int (0 : Int32)), .val (.int (3 : Int32))] d_prog_6_11_20 rfl rfl rfl ?_
        refine m_goto K X5.here hx hby (q := 2) d_prog_6_11_23 (by decide) rfl ?_
        refine m_iloadN K X5.here hx hby d_prog_6_11_2 rfl rfl ?_
        refine m_iconst K X5.here hx hby (4 : Int32) d_prog_6_11_3 rfl rfl ?_
        refine m_icmpN K X5.here hx hby (q := 7) d_prog_6_11_4 (tlt (by decide : (3 : Int32) < (4 : Int32))).2.1 rfl ?_
        refine m_aloadN K X5.here hx hby d_prog_6_11_7 rfl rfl rfl ?_
        refine k_getF K X5 hx hby hZ hown (host := "") (Or.inl (hw _ (List.mem_of_getElem? (i := 38) rfl))) Via.refl e5 F_occupied_a1 d_prog_6_11_8 rfl fun T7 X7 e7 => ?_
        refine m_iloadN K X7.here hx hby d_prog_6_11_11 rfl rfl ?_
        refine k_ldR K X7 hx hby hZ e7 rfl A_bo (v := (.ref x0)) (by decide) rfl d_prog_6_11_12 rfl ?_
        refine m_iloadN K X7.here hx hby d_prog_6_11_13 rfl rfl ?_
        refine k_ldZ K X7 hx hby hZ e7 A_x0 (v := (.int y3)) (by decide) rfl d_prog_6_11_14 rfl ?_
        by_cases hc15_8 : y3 = (0 : Int32)
        · refine m_ifN K X7.here hx hby (q := 18) d_prog_6_11_15 ((if0 _ _).trans (teq hc15_8).2) rfl ?_
          refine m_iconst K X7.here hx hby (1 : Int32) d_prog_6_11_18 rfl rfl ?_
          exact Go.retN X7 hx hby hlk hret (by simp) d_prog_6_11_19 (by decide) (by decide) (by decide) (⟨congrArg (fun z => some (Value.int z)) (Eq.symm (by rw [HRV, if_neg hc15_2, if_neg hc15_4, if_neg hc15_6, if_pos hc15_8])), e7, rfl⟩)
        · refine m_ifY K X7.here hx hby (q := 20) d_prog_6_11_15 ((if0 _ _).trans (feq hc15_8).2) (by decide) rfl ?_
          refine m_iinc K X7.here hx hby #[.val (.ref a1), .val (.int (0 : Int32)), .val (.int (4 : Int32))] d_prog_6_11_20 rfl rfl rfl ?_
          refine m_goto K X7.here hx hby (q := 2) d_prog_6_11_23 (by decide) rfl ?_
          refine m_iloadN K X7.here hx hby d_prog_6_11_2 rfl rfl ?_
          refine m_iconst K X7.here hx hby (4 : Int32) d_prog_6_11_3 rfl rfl ?_
          refine m_icmpY K X7.here hx hby (q := 26) d_prog_6_11_4 (flt (by decide : ¬ ((4 : Int32) < (4 : Int32)))).2.1 (by decide) rfl ?_
          refine m_iconst K X7.here hx hby (0 : Int32) d_prog_6_11_26 rfl rfl ?_
          exact Go.retN X7 hx hby hlk hret (by simp) d_prog_6_11_27 (by decide) (by decide) (by decide) (⟨congrArg (fun z => some (Value.int z)) (Eq.symm (by rw [HRV, if_neg hc15_2, if_neg hc15_4, if_neg hc15_6, if_neg hc15_8])), e7, rfl⟩)
theorem ef10_1 (m : MethodId) (x0 : Addr) (x1 : Int32) : entryFrame m #[(.ref x0), (.int x1)] 3 = mkF m 0 #[.val (.ref x0), .val (.int x1), .unset] [] := by first | (simp [entryFrame, mkF, argsToLocals, Value.category]; done) | rfl
set_option maxRecDepth 65536 in
set_option maxHeartbeats 40000000 in
theorem c10_1 (l : Launch) (Z : State) (a0 : Array Value) (hw : ∀ d ∈ tables_1, d.before a0 Z = true) (a1 : Addr) (bo : Addr) (x0 : Addr) (x1 : Addr) (x2 : Addr) (y0 : Int32) (y1 : Int32) (y2 : Int32) (y3 : Int32) (y4 : Int32) (h0 : Heap) (n0 : Nat) (Z0 : n0 ≤ h0.size) (F_occupied_a1 : Fld Z h0 a1 "com/example/craterworks/craterworks/SharesStation" "occupied" "[[Z" (.ref bo)) (A_bo : Av Z h0 bo (.array .boolean) [(.ref x0), (.ref x1), (.ref x2)]) (A_x1 : Av Z h0 x1 .boolean [(.int y0), (.int y1), (.int y2), (.int y3), (.int y4)]) :
    Con l Z (⟨"com/example/craterworks/craterworks/SharesStation", "hasRoom", "(I)Z"⟩ : MethodName) prog_6_method_11_code 3 (some .boolean) ({ frames := 0, cells := 0, slots := 0, locals := 0 } : Room) [] #[(.ref a1), (.int (1 : Int32))] h0 (fun v h L => v = some (.int (HRV y0 y1 y2 y3)) ∧ h = h0 ∧ L = []) := by
  refine Con.of (plainFor_of_name pn_com_example_craterworks_craterworks_SharesStation) #[.val (.ref a1), .val (.int (1 : Int32)), .unset] (fun m => ef10_1 m a1 (1 : Int32)) ?_
  intro p e s m below meth c s₁ K hx hby hml hown hnm hret hlk hZ X0 e0
  have N0 := Fr.nil n0
  refine m_iconst K X0.here hx hby (0 : Int32) d_prog_6_11_0 rfl rfl ?_
  refine m_istoreN K X0.here hx hby #[.val (.ref a1), .val (.int (1 : Int32)), .val (.int (0 : Int32))] d_prog_6_11_1 rfl rfl ?_
  refine m_iloadN K X0.here hx hby d_prog_6_11_2 rfl rfl ?_
  refine m_iconst K X0.here hx hby (4 : Int32) d_prog_6_11_3 rfl rfl ?_
  refine m_icmpN K X0.here hx hby (q := 7) d_prog_6_11_4 (tlt (by decide : (0 : Int32) < (4 : Int32))).2.1 rfl ?_
  refine m_aloadN K X0.here hx hby d_prog_6_11_7 rfl rfl rfl ?_
  refine k_getF K X0 hx hby hZ hown (host := "") (Or.inl (hw _ (List.mem_of_getElem? (i := 38) rfl))) Via.refl e0 F_occupied_a1 d_prog_6_11_8 rfl fun T1 X1 e1 => ?_
  refine m_iloadN K X1.here hx hby d_prog_6_11_11 rfl rfl ?_
  refine k_ldR K X1 hx hby hZ e1 rfl A_bo (v := (.ref x1)) (by decide) rfl d_prog_6_11_12 rfl ?_
  refine m_iloadN K X1.here hx hby d_prog_6_11_13 rfl rfl ?_
  refine k_ldZ K X1 hx hby hZ e1 A_x1 (v := (.int y0)) (by decide) rfl d_prog_6_11_14 rfl ?_
  by_cases hc15_2 : y0 = (0 : Int32)
  · refine m_ifN K X1.here hx hby (q := 18) d_prog_6_11_15 ((if0 _ _).trans (teq hc15_2).2) rfl ?_
    refine m_iconst K X1.here hx hby (1 : Int32) d_prog_6_11_18 rfl rfl ?_
    exact Go.retN X1 hx hby hlk hret (by simp) d_prog_6_11_19 (by decide) (by decide) (by decide) (⟨congrArg (fun z => some (Value.int z)) (Eq.symm (by rw [HRV, if_pos hc15_2])), e1, rfl⟩)
  · refine m_ifY K X1.here hx hby (q := 20) d_prog_6_11_15 ((if0 _ _).trans (feq hc15_2).2) (by decide) rfl ?_
    refine m_iinc K X1.here hx hby #[.val (.ref a1), .val (.int (1 : Int32)), .val (.int (1 : Int32))] d_prog_6_11_20 rfl rfl rfl ?_
    refine m_goto K X1.here hx hby (q := 2) d_prog_6_11_23 (by decide) rfl ?_
    refine m_iloadN K X1.here hx hby d_prog_6_11_2 rfl rfl ?_
    refine m_iconst K X1.here hx hby (4 : Int32) d_prog_6_11_3 rfl rfl ?_
    refine m_icmpN K X1.here hx hby (q := 7) d_prog_6_11_4 (tlt (by decide : (1 : Int32) < (4 : Int32))).2.1 rfl ?_
    refine m_aloadN K X1.here hx hby d_prog_6_11_7 rfl rfl rfl ?_
    refine k_getF K X1 hx hby hZ hown (host := "") (Or.inl (hw _ (List.mem_of_getElem? (i := 38) rfl))) Via.refl e1 F_occupied_a1 d_prog_6_11_8 rfl fun T3 X3 e3 => ?_
    refine m_iloadN K X3.here hx hby d_prog_6_11_11 rfl rfl ?_
    refine k_ldR K X3 hx hby hZ e3 rfl A_bo (v := (.ref x1)) (by decide) rfl d_prog_6_11_12 rfl ?_
    refine m_iloadN K X3.here hx hby d_prog_6_11_13 rfl rfl ?_
    refine k_ldZ K X3 hx hby hZ e3 A_x1 (v := (.int y1)) (by decide) rfl d_prog_6_11_14 rfl ?_
    by_cases hc15_4 : y1 = (0 : Int32)
    · refine m_ifN K X3.here hx hby (q := 18) d_prog_6_11_15 ((if0 _ _).trans (teq hc15_4).2) rfl ?_
      refine m_iconst K X3.here hx hby (1 : Int32) d_prog_6_11_18 rfl rfl ?_
      exact Go.retN X3 hx hby hlk hret (by simp) d_prog_6_11_19 (by decide) (by decide) (by decide) (⟨congrArg (fun z => some (Value.int z)) (Eq.symm (by rw [HRV, if_neg hc15_2, if_pos hc15_4])), e3, rfl⟩)
    · refine m_ifY K X3.here hx hby (q := 20) d_prog_6_11_15 ((if0 _ _).trans (feq hc15_4).2) (by decide) rfl ?_
      refine m_iinc K X3.here hx hby #[.val (.ref a1), .val (.int (1 : Int32)), .val (.int (2 : Int32))] d_prog_6_11_20 rfl rfl rfl ?_
      refine m_goto K X3.here hx hby (q := 2) d_prog_6_11_23 (by decide) rfl ?_
      refine m_iloadN K X3.here hx hby d_prog_6_11_2 rfl rfl ?_
      refine m_iconst K X3.here hx hby (4 : Int32) d_prog_6_11_3 rfl rfl ?_
      refine m_icmpN K X3.here hx hby (q := 7) d_prog_6_11_4 (tlt (by decide : (2 : Int32) < (4 : Int32))).2.1 rfl ?_
      refine m_aloadN K X3.here hx hby d_prog_6_11_7 rfl rfl rfl ?_
      refine k_getF K X3 hx hby hZ hown (host := "") (Or.inl (hw _ (List.mem_of_getElem? (i := 38) rfl))) Via.refl e3 F_occupied_a1 d_prog_6_11_8 rfl fun T5 X5 e5 => ?_
      refine m_iloadN K X5.here hx hby d_prog_6_11_11 rfl rfl ?_
      refine k_ldR K X5 hx hby hZ e5 rfl A_bo (v := (.ref x1)) (by decide) rfl d_prog_6_11_12 rfl ?_
      refine m_iloadN K X5.here hx hby d_prog_6_11_13 rfl rfl ?_
      refine k_ldZ K X5 hx hby hZ e5 A_x1 (v := (.int y2)) (by decide) rfl d_prog_6_11_14 rfl ?_
      by_cases hc15_6 : y2 = (0 : Int32)
      · refine m_ifN K X5.here hx hby (q := 18) d_prog_6_11_15 ((if0 _ _).trans (teq hc15_6).2) rfl ?_
        refine m_iconst K X5.here hx hby (1 : Int32) d_prog_6_11_18 rfl rfl ?_
        exact Go.retN X5 hx hby hlk hret (by simp) d_prog_6_11_19 (by decide) (by decide) (by decide) (⟨congrArg (fun z => some (Value.int z)) (Eq.symm (by rw [HRV, if_neg hc15_2, if_neg hc15_4, if_pos hc15_6])), e5, rfl⟩)
      · refine m_ifY K X5.here hx hby (q := 20) d_prog_6_11_15 ((if0 _ _).trans (feq hc15_6).2) (by decide) rfl ?_
        refine m_iinc K X5.here hx hby #[.val (.ref a1), .val (.int (1 : Int32)), .val (.int (3 : Int32))] d_prog_6_11_20 rfl rfl rfl ?_
        refine m_goto K X5.here hx hby (q := 2) d_prog_6_11_23 (by decide) rfl ?_
        refine m_iloadN K X5.here hx hby d_prog_6_11_2 rfl rfl ?_
        refine m_iconst K X5.here hx hby (4 : Int32) d_prog_6_11_3 rfl rfl ?_
        refine m_icmpN K X5.here hx hby (q := 7) d_prog_6_11_4 (tlt (by decide : (3 : Int32) < (4 : Int32))).2.1 rfl ?_
        refine m_aloadN K X5.here hx hby d_prog_6_11_7 rfl rfl rfl ?_
        refine k_getF K X5 hx hby hZ hown (host := "") (Or.inl (hw _ (List.mem_of_getElem? (i := 38) rfl))) Via.refl e5 F_occupied_a1 d_prog_6_11_8 rfl fun T7 X7 e7 => ?_
        refine m_iloadN K X7.here hx hby d_prog_6_11_11 rfl rfl ?_
        refine k_ldR K X7 hx hby hZ e7 rfl A_bo (v := (.ref x1)) (by decide) rfl d_prog_6_11_12 rfl ?_
        refine m_iloadN K X7.here hx hby d_prog_6_11_13 rfl rfl ?_
        refine k_ldZ K X7 hx hby hZ e7 A_x1 (v := (.int y3)) (by decide) rfl d_prog_6_11_14 rfl ?_
        by_cases hc15_8 : y3 = (0 : Int32)
        · refine m_ifN K X7.here hx hby (q := 18) d_prog_6_11_15 ((if0 _ _).trans (teq hc15_8).2) rfl ?_
          refine m_iconst K X7.here hx hby (1 : Int32) d_prog_6_11_18 rfl rfl ?_
          exact Go.retN X7 hx hby hlk hret (by simp) d_prog_6_11_19 (by decide) (by decide) (by decide) (⟨congrArg (fun z => some (Value.int z)) (Eq.symm (by rw [HRV, if_neg hc15_2, if_neg hc15_4, if_neg hc15_6, if_pos hc15_8])), e7, rfl⟩)
        · refine m_ifY K X7.here hx hby (q := 20) d_prog_6_11_15 ((if0 _ _).trans (feq hc15_8).2) (by decide) rfl ?_
          refine m_iinc K X7.here hx hby #[.val (.ref a1), .val (.int (1 : Int32)), .val (.int (4 : Int32))] d_prog_6_11_20 rfl rfl rfl ?_
          refine m_goto K X7.here hx hby (q := 2) d_prog_6_11_23 (by decide) rfl ?_
          refine m_iloadN K X7.here hx hby d_prog_6_11_2 rfl rfl ?_
          refine m_iconst K X7.here hx hby (4 : Int32) d_prog_6_11_3 rfl rfl ?_
          refine m_icmpY K X7.here hx hby (q := 26) d_prog_6_11_4 (flt (by decide : ¬ ((4 : Int32) < (4 : Int32)))).2.1 (by decide) rfl ?_
          refine m_iconst K X7.here hx hby (0 : Int32) d_prog_6_11_26 rfl rfl ?_
          exact Go.retN X7 hx hby hlk hret (by simp) d_prog_6_11_27 (by decide) (by decide) (by decide) (⟨congrArg (fun z => some (Value.int z)) (Eq.symm (by rw [HRV, if_neg hc15_2, if_neg hc15_4, if_neg hc15_6, if_neg hc15_8])), e7, rfl⟩)
theorem ef10_2 (m : MethodId) (x0 : Addr) (x1 : Int32) : entryFrame m #[(.ref x0), (.int x1)] 3 = mkF m 0 #[.val (.ref x0), .val (.int x1), .unset] [] := by first | (simp [entryFrame, mkF, argsToLocals, Value.category]; done) | rfl
set_option maxRecDepth 65536 in
set_option maxHeartbeats 40000000 in
theorem c10_2 (l : Launch) (Z : State) (a0 : Array Value) (hw : ∀ d ∈ tables_1, d.before a0 Z = true) (a1 : Addr) (bo : Addr) (x0 : Addr) (x1 : Addr) (x2 : Addr) (y0 : Int32) (y1 : Int32) (y2 : Int32) (y3 : Int32) (y4 : Int32) (h0 : Heap) (n0 : Nat) (Z0 : n0 ≤ h0.size) (F_occupied_a1 : Fld Z h0 a1 "com/example/craterworks/craterworks/SharesStation" "occupied" "[[Z" (.ref bo)) (A_bo : Av Z h0 bo (.array .boolean) [(.ref x0), (.ref x1), (.ref x2)]) (A_x2 : Av Z h0 x2 .boolean [(.int y0), (.int y1), (.int y2), (.int y3), (.int y4)]) :
    Con l Z (⟨"com/example/craterworks/craterworks/SharesStation", "hasRoom", "(I)Z"⟩ : MethodName) prog_6_method_11_code 3 (some .boolean) ({ frames := 0, cells := 0, slots := 0, locals := 0 } : Room) [] #[(.ref a1), (.int (2 : Int32))] h0 (fun v h L => v = some (.int (HRV y0 y1 y2 y3)) ∧ h = h0 ∧ L = []) := by
  refine Con.of (plainFor_of_name pn_com_example_craterworks_craterworks_SharesStation) #[.val (.ref a1), .val (.int (2 : Int32)), .unset] (fun m => ef10_2 m a1 (2 : Int32)) ?_
  intro p e s m below meth c s₁ K hx hby hml hown hnm hret hlk hZ X0 e0
  have N0 := Fr.nil n0
  refine m_iconst K X0.here hx hby (0 : Int32) d_prog_6_11_0 rfl rfl ?_
  refine m_istoreN K X0.here hx hby #[.val (.ref a1), .val (.int (2 : Int32)), .val (.int (0 : Int32))] d_prog_6_11_1 rfl rfl ?_
  refine m_iloadN K X0.here hx hby d_prog_6_11_2 rfl rfl ?_
  refine m_iconst K X0.here hx hby (4 : Int32) d_prog_6_11_3 rfl rfl ?_
  refine m_icmpN K X0.here hx hby (q := 7) d_prog_6_11_4 (tlt (by decide : (0 : Int32) < (4 : Int32))).2.1 rfl ?_
  refine m_aloadN K X0.here hx hby d_prog_6_11_7 rfl rfl rfl ?_
  refine k_getF K X0 hx hby hZ hown (host := "") (Or.inl (hw _ (List.mem_of_getElem? (i := 38) rfl))) Via.refl e0 F_occupied_a1 d_prog_6_11_8 rfl fun T1 X1 e1 => ?_
  refine m_iloadN K X1.here hx hby d_prog_6_11_11 rfl rfl ?_
  refine k_ldR K X1 hx hby hZ e1 rfl A_bo (v := (.ref x2)) (by decide) rfl d_prog_6_11_12 rfl ?_
  refine m_iloadN K X1.here hx hby d_prog_6_11_13 rfl rfl ?_
  refine k_ldZ K X1 hx hby hZ e1 A_x2 (v := (.int y0)) (by decide) rfl d_prog_6_11_14 rfl ?_
  by_cases hc15_2 : y0 = (0 : Int32)
  · refine m_ifN K X1.here hx hby (q := 18) d_prog_6_11_15 ((if0 _ _).trans (teq hc15_2).2) rfl ?_
    refine m_iconst K X1.here hx hby (1 : Int32) d_prog_6_11_18 rfl rfl ?_
    exact Go.retN X1 hx hby hlk hret (by simp) d_prog_6_11_19 (by decide) (by decide) (by decide) (⟨congrArg (fun z => some (Value.int z)) (Eq.symm (by rw [HRV, if_pos hc15_2])), e1, rfl⟩)
  · refine m_ifY K X1.here hx hby (q := 20) d_prog_6_11_15 ((if0 _ _).trans (feq hc15_2).2) (by decide) rfl ?_
    refine m_iinc K X1.here hx hby #[.val (.ref a1), .val (.int (2 : Int32)), .val (.int (1 : Int32))] d_prog_6_11_20 rfl rfl rfl ?_
    refine m_goto K X1.here hx hby (q := 2) d_prog_6_11_23 (by decide) rfl ?_
    refine m_iloadN K X1.here hx hby d_prog_6_11_2 rfl rfl ?_
    refine m_iconst K X1.here hx hby (4 : Int32) d_prog_6_11_3 rfl rfl ?_
    refine m_icmpN K X1.here hx hby (q := 7) d_prog_6_11_4 (tlt (by decide : (1 : Int32) < (4 : Int32))).2.1 rfl ?_
    refine m_aloadN K X1.here hx hby d_prog_6_11_7 rfl rfl rfl ?_
    refine k_getF K X1 hx hby hZ hown (host := "") (Or.inl (hw _ (List.mem_of_getElem? (i := 38) rfl))) Via.refl e1 F_occupied_a1 d_prog_6_11_8 rfl fun T3 X3 e3 => ?_
    refine m_iloadN K X3.here hx hby d_prog_6_11_11 rfl rfl ?_
    refine k_ldR K X3 hx hby hZ e3 rfl A_bo (v := (.ref x2)) (by decide) rfl d_prog_6_11_12 rfl ?_
    refine m_iloadN K X3.here hx hby d_prog_6_11_13 rfl rfl ?_
    refine k_ldZ K X3 hx hby hZ e3 A_x2 (v := (.int y1)) (by decide) rfl d_prog_6_11_14 rfl ?_
    by_cases hc15_4 : y1 = (0 : Int32)
    · refine m_ifN K X3.here hx hby (q := 18) d_prog_6_11_15 ((if0 _ _).trans (teq hc15_4).2) rfl ?_
      refine m_iconst K X3.here hx hby (1 : Int32) d_prog_6_11_18 rfl rfl ?_
      exact Go.retN X3 hx hby hlk hret (by simp) d_prog_6_11_19 (by decide) (by decide) (by decide) (⟨congrArg (fun z => some (Value.int z)) (Eq.symm (by rw [HRV, if_neg hc15_2, if_pos hc15_4])), e3, rfl⟩)
    · refine m_ifY K X3.here hx hby (q := 20) d_prog_6_11_15 ((if0 _ _).trans (feq hc15_4).2) (by decide) rfl ?_
      refine m_iinc K X3.here hx hby #[.val (.ref a1), .val (.int (2 : Int32)), .val (.int (2 : Int32))] d_prog_6_11_20 rfl rfl rfl ?_
      refine m_goto K X3.here hx hby (q := 2) d_prog_6_11_23 (by decide) rfl ?_
      refine m_iloadN K X3.here hx hby d_prog_6_11_2 rfl rfl ?_
      refine m_iconst K X3.here hx hby (4 : Int32) d_prog_6_11_3 rfl rfl ?_
      refine m_icmpN K X3.here hx hby (q := 7) d_prog_6_11_4 (tlt (by decide : (2 : Int32) < (4 : Int32))).2.1 rfl ?_
      refine m_aloadN K X3.here hx hby d_prog_6_11_7 rfl rfl rfl ?_
      refine k_getF K X3 hx hby hZ hown (host := "") (Or.inl (hw _ (List.mem_of_getElem? (i := 38) rfl))) Via.refl e3 F_occupied_a1 d_prog_6_11_8 rfl fun T5 X5 e5 => ?_
      refine m_iloadN K X5.here hx hby d_prog_6_11_11 rfl rfl ?_
      refine k_ldR K X5 hx hby hZ e5 rfl A_bo (v := (.ref x2)) (by decide) rfl d_prog_6_11_12 rfl ?_
      refine m_iloadN K X5.here hx hby d_prog_6_11_13 rfl rfl ?_
      refine k_ldZ K X5 hx hby hZ e5 A_x2 (v := (.int y2)) (by decide) rfl d_prog_6_11_14 rfl ?_
      by_cases hc15_6 : y2 = (0 : Int32)
      · refine m_ifN K X5.here hx hby (q := 18) d_prog_6_11_15 ((if0 _ _).trans (teq hc15_6).2) rfl ?_
        refine m_iconst K X5.here hx hby (1 : Int32) d_prog_6_11_18 rfl rfl ?_
        exact Go.retN X5 hx hby hlk hret (by simp) d_prog_6_11_19 (by decide) (by decide) (by decide) (⟨congrArg (fun z => some (Value.int z)) (Eq.symm (by rw [HRV, if_neg hc15_2, if_neg hc15_4, if_pos hc15_6])), e5, rfl⟩)
      · refine m_ifY K X5.here hx hby (q := 20) d_prog_6_11_15 ((if0 _ _).trans (feq hc15_6).2) (by decide) rfl ?_
        refine m_iinc K X5.here hx hby #[.val (.ref a1), .val (.int (2 : Int32)), .val (.int (3 : Int32))] d_prog_6_11_20 rfl rfl rfl ?_
        refine m_goto K X5.here hx hby (q := 2) d_prog_6_11_23 (by decide) rfl ?_
        refine m_iloadN K X5.here hx hby d_prog_6_11_2 rfl rfl ?_
        refine m_iconst K X5.here hx hby (4 : Int32) d_prog_6_11_3 rfl rfl ?_
        refine m_icmpN K X5.here hx hby (q := 7) d_prog_6_11_4 (tlt (by decide : (3 : Int32) < (4 : Int32))).2.1 rfl ?_
        refine m_aloadN K X5.here hx hby d_prog_6_11_7 rfl rfl rfl ?_
        refine k_getF K X5 hx hby hZ hown (host := "") (Or.inl (hw _ (List.mem_of_getElem? (i := 38) rfl))) Via.refl e5 F_occupied_a1 d_prog_6_11_8 rfl fun T7 X7 e7 => ?_
        refine m_iloadN K X7.here hx hby d_prog_6_11_11 rfl rfl ?_
        refine k_ldR K X7 hx hby hZ e7 rfl A_bo (v := (.ref x2)) (by decide) rfl d_prog_6_11_12 rfl ?_
        refine m_iloadN K X7.here hx hby d_prog_6_11_13 rfl rfl ?_
        refine k_ldZ K X7 hx hby hZ e7 A_x2 (v := (.int y3)) (by decide) rfl d_prog_6_11_14 rfl ?_
        by_cases hc15_8 : y3 = (0 : Int32)
        · refine m_ifN K X7.here hx hby (q := 18) d_prog_6_11_15 ((if0 _ _).trans (teq hc15_8).2) rfl ?_
          refine m_iconst K X7.here hx hby (1 : Int32) d_prog_6_11_18 rfl rfl ?_
          exact Go.retN X7 hx hby hlk hret (by simp) d_prog_6_11_19 (by decide) (by decide) (by decide) (⟨congrArg (fun z => some (Value.int z)) (Eq.symm (by rw [HRV, if_neg hc15_2, if_neg hc15_4, if_neg hc15_6, if_pos hc15_8])), e7, rfl⟩)
        · refine m_ifY K X7.here hx hby (q := 20) d_prog_6_11_15 ((if0 _ _).trans (feq hc15_8).2) (by decide) rfl ?_
          refine m_iinc K X7.here hx hby #[.val (.ref a1), .val (.int (2 : Int32)), .val (.int (4 : Int32))] d_prog_6_11_20 rfl rfl rfl ?_
          refine m_goto K X7.here hx hby (q := 2) d_prog_6_11_23 (by decide) rfl ?_
          refine m_iloadN K X7.here hx hby d_prog_6_11_2 rfl rfl ?_
          refine m_iconst K X7.here hx hby (4 : Int32) d_prog_6_11_3 rfl rfl ?_
          refine m_icmpY K X7.here hx hby (q := 26) d_prog_6_11_4 (flt (by decide : ¬ ((4 : Int32) < (4 : Int32)))).2.1 (by decide) rfl ?_
          refine m_iconst K X7.here hx hby (0 : Int32) d_prog_6_11_26 rfl rfl ?_
          exact Go.retN X7 hx hby hlk hret (by simp) d_prog_6_11_27 (by decide) (by decide) (by decide) (⟨congrArg (fun z => some (Value.int z)) (Eq.symm (by rw [HRV, if_neg hc15_2, if_neg hc15_4, if_neg hc15_6, if_neg hc15_8])), e7, rfl⟩)
def w0_1 (p1 : Int32) : Int32 := ((p1 &&& (2147483647 : Int32)) % (6 : Int32))
def w0_2 (p2 : Int32) : Int32 := ((p2 &&& (2147483647 : Int32)) % (6 : Int32))
def w0_3 (p3 : Int32) : Int32 := ((p3 &&& (2147483647 : Int32)) % (6 : Int32))
def w0_4 (p4 : Int32) : Int32 := (if (p4 &&& (1 : Int32)) = (0 : Int32) then (0 : Int32) else (1 : Int32))
theorem w0_4_01 (p4 : Int32) : (w0_4 p4) = 0 ∨ (w0_4 p4) = 1 := by
  unfold w0_4
  split
  · exact (Or.inl rfl)
  · exact (Or.inr rfl)
def w0_5 (p4 : Int32) : Int32 := ((p4.toUInt32 >>> ((1 : Int32) &&& 31).toUInt32).toInt32)
def w0_6 (p4 : Int32) : Int32 := (((w0_5 p4) &&& (1073741823 : Int32)) % (3 : Int32))
def w0_7 (p1 : Int32) (p2 : Int32) : Int32 := (((15 : Int32) - (w0_1 p1)) - (w0_2 p2))
def w0_8 (p1 : Int32) (p2 : Int32) (p3 : Int32) : Int32 := (BRV (cx (w0_1 p1).toNatClampNeg 0) (cx (w0_1 p1).toNatClampNeg 1) (cx (w0_1 p1).toNatClampNeg 2) (cx (w0_1 p1).toNatClampNeg 3) (cx (w0_1 p1).toNatClampNeg 4) (cx (w0_2 p2).toNatClampNeg 0) (cx (w0_2 p2).toNatClampNeg 1) (cx (w0_2 p2).toNatClampNeg 2) (cx (w0_2 p2).toNatClampNeg 3) (cx (w0_2 p2).toNatClampNeg 4) (cx (w0_3 p3).toNatClampNeg 0) (cx (w0_3 p3).toNatClampNeg 1) (cx (w0_3 p3).toNatClampNeg 2) (cx (w0_3 p3).toNatClampNeg 3) (cx (w0_3 p3).toNatClampNeg 4))
def w0_9 (p1 : Int32) : Int32 := (HRV (cx (w0_1 p1).toNatClampNeg 0) (cx (w0_1 p1).toNatClampNeg 1) (cx (w0_1 p1).toNatClampNeg 2) (cx (w0_1 p1).toNatClampNeg 3))
def w0_10 (p1 : Int32) (p2 : Int32) (p3 : Int32) : Int32 := (((w0_7 p1 p2) - (w0_3 p3)) + (1 : Int32))
def w0_11 (p1 : Int32) (p2 : Int32) (p3 : Int32) : Int32 := (if (w0_8 p1 p2 p3) = ((w0_7 p1 p2) - (w0_3 p3)) then (1 : Int32) else (0 : Int32))
theorem w0_11_01 (p1 : Int32) (p2 : Int32) (p3 : Int32) : (w0_11 p1 p2 p3) = 0 ∨ (w0_11 p1 p2 p3) = 1 := by
  unfold w0_11
  split
  · exact (Or.inr rfl)
  · exact (Or.inl rfl)
def w0_12 (p1 : Int32) (p2 : Int32) (p3 : Int32) : Int32 := (BRV (sx (w0_1 p1).toNatClampNeg 0) (sx (w0_1 p1).toNatClampNeg 1) (sx (w0_1 p1).toNatClampNeg 2) (sx (w0_1 p1).toNatClampNeg 3) (sx (w0_1 p1).toNatClampNeg 4) (cx (w0_2 p2).toNatClampNeg 0) (cx (w0_2 p2).toNatClampNeg 1) (cx (w0_2 p2).toNatClampNeg 2) (cx (w0_2 p2).toNatClampNeg 3) (cx (w0_2 p2).toNatClampNeg 4) (cx (w0_3 p3).toNatClampNeg 0) (cx (w0_3 p3).toNatClampNeg 1) (cx (w0_3 p3).toNatClampNeg 2) (cx (w0_3 p3).toNatClampNeg 3) (cx (w0_3 p3).toNatClampNeg 4))
def w0_13 (p1 : Int32) (p2 : Int32) (p3 : Int32) : Int32 := (if (w0_12 p1 p2 p3) = (w0_10 p1 p2 p3) then (1 : Int32) else (0 : Int32))
theorem w0_13_01 (p1 : Int32) (p2 : Int32) (p3 : Int32) : (w0_13 p1 p2 p3) = 0 ∨ (w0_13 p1 p2 p3) = 1 := by
  unfold w0_13
  split
  · exact (Or.inr rfl)
  · exact (Or.inl rfl)
def w0_14 (p2 : Int32) : Int32 := (HRV (cx (w0_2 p2).toNatClampNeg 0) (cx (w0_2 p2).toNatClampNeg 1) (cx (w0_2 p2).toNatClampNeg 2) (cx (w0_2 p2).toNatClampNeg 3))
def w0_15 (p1 : Int32) (p2 : Int32) (p3 : Int32) : Int32 := (BRV (cx (w0_1 p1).toNatClampNeg 0) (cx (w0_1 p1).toNatClampNeg 1) (cx (w0_1 p1).toNatClampNeg 2) (cx (w0_1 p1).toNatClampNeg 3) (cx (w0_1 p1).toNatClampNeg 4) (sx (w0_2 p2).toNatClampNeg 0) (sx (w0_2 p2).toNatClampNeg 1) (sx (w0_2 p2).toNatClampNeg 2) (sx (w0_2 p2).toNatClampNeg 3) (sx (w0_2 p2).toNatClampNeg 4) (cx (w0_3 p3).toNatClampNeg 0) (cx (w0_3 p3).toNatClampNeg 1) (cx (w0_3 p3).toNatClampNeg 2) (cx (w0_3 p3).toNatClampNeg 3) (cx (w0_3 p3).toNatClampNeg 4))
def w0_16 (p1 : Int32) (p2 : Int32) (p3 : Int32) : Int32 := (if (w0_15 p1 p2 p3) = (w0_10 p1 p2 p3) then (1 : Int32) else (0 : Int32))
theorem w0_16_01 (p1 : Int32) (p2 : Int32) (p3 : Int32) : (w0_16 p1 p2 p3) = 0 ∨ (w0_16 p1 p2 p3) = 1 := by
  unfold w0_16
  split
  · exact (Or.inr rfl)
  · exact (Or.inl rfl)
def w0_17 (p3 : Int32) : Int32 := (HRV (cx (w0_3 p3).toNatClampNeg 0) (cx (w0_3 p3).toNatClampNeg 1) (cx (w0_3 p3).toNatClampNeg 2) (cx (w0_3 p3).toNatClampNeg 3))
def w0_18 (p1 : Int32) (p2 : Int32) (p3 : Int32) : Int32 := (BRV (cx (w0_1 p1).toNatClampNeg 0) (cx (w0_1 p1).toNatClampNeg 1) (cx (w0_1 p1).toNatClampNeg 2) (cx (w0_1 p1).toNatClampNeg 3) (cx (w0_1 p1).toNatClampNeg 4) (cx (w0_2 p2).toNatClampNeg 0) (cx (w0_2 p2).toNatClampNeg 1) (cx (w0_2 p2).toNatClampNeg 2) (cx (w0_2 p2).toNatClampNeg 3) (cx (w0_2 p2).toNatClampNeg 4) (sx (w0_3 p3).toNatClampNeg 0) (sx (w0_3 p3).toNatClampNeg 1) (sx (w0_3 p3).toNatClampNeg 2) (sx (w0_3 p3).toNatClampNeg 3) (sx (w0_3 p3).toNatClampNeg 4))
def w0_19 (p1 : Int32) (p2 : Int32) (p3 : Int32) : Int32 := (if (w0_18 p1 p2 p3) = (w0_10 p1 p2 p3) then (1 : Int32) else (0 : Int32))
theorem w0_19_01 (p1 : Int32) (p2 : Int32) (p3 : Int32) : (w0_19 p1 p2 p3) = 0 ∨ (w0_19 p1 p2 p3) = 1 := by
  unfold w0_19
  split
  · exact (Or.inr rfl)
  · exact (Or.inl rfl)
theorem own_r6 (p : Int32) : 0 ≤ ((p &&& (2147483647 : Int32)) % (6 : Int32)).toInt ∧ ((p &&& (2147483647 : Int32)) % (6 : Int32)).toInt < 6 := by
  have hm := c_mask p (2147483647 : Int32) 31 (by decide) (by decide)
  have hv := (c_iremV (p &&& (2147483647 : Int32)) (6 : Int32)).1 (by omega) (by decide)
  have e : (6 : Int32).toInt = 6 := rfl
  rw [e] at hv
  exact ⟨hv.1, hv.2.1⟩
theorem own_hm (p : Int32) : (p &&& (2147483647 : Int32)) % (6 : Int32) = Int32.ofNat ((p &&& (2147483647 : Int32)) % (6 : Int32)).toNatClampNeg := by
  have h := own_r6 p
  refine Int32.toInt_inj.mp ?_
  have e : ((((p &&& (2147483647 : Int32)) % (6 : Int32)).toNatClampNeg : Nat) : Int) = ((p &&& (2147483647 : Int32)) % (6 : Int32)).toInt := by simp only [Int32.toNatClampNeg]; omega
  rw [Int32.toInt_ofNat_small (by omega), e]
theorem own_h5 (p : Int32) : ((p &&& (2147483647 : Int32)) % (6 : Int32)).toNatClampNeg ≤ 5 := by
  have h := own_r6 p
  simp only [Int32.toNatClampNeg]; omega
theorem own_h1 (m : Nat) (h : ¬ HRV (cx m 0) (cx m 1) (cx m 2) (cx m 3) = 0) : 1 ≤ m := by
  rcases Nat.eq_zero_or_pos m with rfl | q
  · exact absurd (by decide) h
  · exact q
theorem own_col (p4 : Int32) : w0_6 p4 = 0 ∨ w0_6 p4 = 1 ∨ w0_6 p4 = 2 := by
  have hm := c_mask (w0_5 p4) (1073741823 : Int32) 30 (by decide) (by decide)
  have hv := (c_iremV (w0_5 p4 &&& (1073741823 : Int32)) (3 : Int32)).1 (by omega) (by decide)
  have e : (3 : Int32).toInt = 3 := rfl
  rw [e] at hv
  have h0 : 0 ≤ (w0_6 p4).toInt := hv.1
  have h3 : (w0_6 p4).toInt < 3 := hv.2.1
  have e0 : (0 : Int32).toInt = 0 := rfl
  have e1 : (1 : Int32).toInt = 1 := rfl
  have e2 : (2 : Int32).toInt = 2 := rfl
  simp only [← Int32.toInt_inj]
  omega
theorem own_S : ∀ a b c : Fin 6, BRV (cx a 0) (cx a 1) (cx a 2) (cx a 3) (cx a 4) (cx b 0) (cx b 1) (cx b 2) (cx b 3) (cx b 4) (cx c 0) (cx c 1) (cx c 2) (cx c 3) (cx c 4) = (((15 : Int32) - Int32.ofNat a) - Int32.ofNat b) - Int32.ofNat c := by decide +kernel
theorem own_S0 : ∀ a b c : Fin 6, 1 ≤ a.val → BRV (sx a 0) (sx a 1) (sx a 2) (sx a 3) (sx a 4) (cx b 0) (cx b 1) (cx b 2) (cx b 3) (cx b 4) (cx c 0) (cx c 1) (cx c 2) (cx c 3) (cx c 4) = ((((15 : Int32) - Int32.ofNat a) - Int32.ofNat b) - Int32.ofNat c) + 1 := by decide +kernel
theorem own_S1 : ∀ a b c : Fin 6, 1 ≤ b.val → BRV (cx a 0) (cx a 1) (cx a 2) (cx a 3) (cx a 4) (sx b 0) (sx b 1) (sx b 2) (sx b 3) (sx b 4) (cx c 0) (cx c 1) (cx c 2) (cx c 3) (cx c 4) = ((((15 : Int32) - Int32.ofNat a) - Int32.ofNat b) - Int32.ofNat c) + 1 := by decide +kernel
theorem own_S2 : ∀ a b c : Fin 6, 1 ≤ c.val → BRV (cx a 0) (cx a 1) (cx a 2) (cx a 3) (cx a 4) (cx b 0) (cx b 1) (cx b 2) (cx b 3) (cx b 4) (sx c 0) (sx c 1) (sx c 2) (sx c 3) (sx c 4) = ((((15 : Int32) - Int32.ofNat a) - Int32.ofNat b) - Int32.ofNat c) + 1 := by decide +kernel
theorem own_rhs (p1 p2 p3 : Int32) : (w0_7 p1 p2) - (w0_3 p3) = (((15 : Int32) - Int32.ofNat (w0_1 p1).toNatClampNeg) - Int32.ofNat (w0_2 p2).toNatClampNeg) - Int32.ofNat (w0_3 p3).toNatClampNeg := by
  have h1 : Int32.ofNat (w0_1 p1).toNatClampNeg = w0_1 p1 := (own_hm p1).symm
  have h2 : Int32.ofNat (w0_2 p2).toNatClampNeg = w0_2 p2 := (own_hm p2).symm
  have h3 : Int32.ofNat (w0_3 p3).toNatClampNeg = w0_3 p3 := (own_hm p3).symm
  rw [h1, h2, h3, w0_7]
theorem own_sum (p1 p2 p3 : Int32) : w0_8 p1 p2 p3 = (w0_7 p1 p2) - (w0_3 p3) := by
  rw [own_rhs]
  exact own_S ⟨_, Nat.lt_succ_of_le (own_h5 p1)⟩ ⟨_, Nat.lt_succ_of_le (own_h5 p2)⟩ ⟨_, Nat.lt_succ_of_le (own_h5 p3)⟩
theorem own_sum0 (p1 p2 p3 : Int32) (h : ¬ w0_9 p1 = 0) : w0_12 p1 p2 p3 = w0_10 p1 p2 p3 := by
  rw [w0_10, own_rhs]
  exact own_S0 ⟨_, Nat.lt_succ_of_le (own_h5 p1)⟩ ⟨_, Nat.lt_succ_of_le (own_h5 p2)⟩ ⟨_, Nat.lt_succ_of_le (own_h5 p3)⟩ (own_h1 _ h)
theorem own_sum1 (p1 p2 p3 : Int32) (h : ¬ w0_14 p2 = 0) : w0_15 p1 p2 p3 = w0_10 p1 p2 p3 := by
  rw [w0_10, own_rhs]
  exact own_S1 ⟨_, Nat.lt_succ_of_le (own_h5 p1)⟩ ⟨_, Nat.lt_succ_of_le (own_h5 p2)⟩ ⟨_, Nat.lt_succ_of_le (own_h5 p3)⟩ (own_h1 _ h)
theorem own_sum2 (p1 p2 p3 : Int32) (h : ¬ w0_17 p3 = 0) : w0_18 p1 p2 p3 = w0_10 p1 p2 p3 := by
  rw [w0_10, own_rhs]
  exact own_S2 ⟨_, Nat.lt_succ_of_le (own_h5 p1)⟩ ⟨_, Nat.lt_succ_of_le (own_h5 p2)⟩ ⟨_, Nat.lt_succ_of_le (own_h5 p3)⟩ (own_h1 _ h)
theorem pd_3 : parseMethodDescriptor "(Ljava/util/List;)V" = some ⟨[(.object "java/util/List")], none⟩ := by decide +kernel
theorem pd_4 : parseMethodDescriptor "(Lcom/example/craterworks/craterworks/SharesStation;II)V" = some ⟨[(.object "com/example/craterworks/craterworks/SharesStation"), .int, .int], none⟩ := by decide +kernel
theorem pd_5 : parseMethodDescriptor "()I" = some ⟨[], some .int⟩ := by decide +kernel
theorem pd_6 : parseMethodDescriptor "(I)Z" = some ⟨[.int], some .boolean⟩ := by decide +kernel
theorem ef0 (m : MethodId) (x0 : Int32) (x1 : Int32) (x2 : Int32) (x3 : Int32) : entryFrame m #[(.int x0), (.int x1), (.int x2), (.int x3)] maxLocals = mkF m 0 #[.val (.int x0), .val (.int x1), .val (.int x2), .val (.int x3), .unset, .unset, .unset, .unset, .unset, .unset, .unset, .unset, .unset] [] := by first | (simp [entryFrame, mkF, argsToLocals, Value.category, maxLocals]; done) | rfl
set_option maxRecDepth 65536 in
set_option maxHeartbeats 40000000 in
theorem law0 (l : Launch) (Z : State) (a0 : Array Value) (hw : ∀ d ∈ tables_1, d.before a0 Z = true) (ws : List Jvm.Cond) (p1 : Int32) (p2 : Int32) (p3 : Int32) (p4 : Int32) (d1 : Addr) (h0 : Heap) (n0 : Nat) (Z0 : n0 ≤ h0.size) (S_ArrayList_DEFAULTCAPACITY_EMPTY_ELEMENTDATA : Sta Z Z.heap "java/util/ArrayList" "DEFAULTCAPACITY_EMPTY_ELEMENTDATA" "[Ljava/lang/Object;" (.ref d1)) (O0 : Old Z n0 h0) :
    Con l Z x code maxLocals ret room_1 ws #[(.int p1), (.int p2), (.int p3), (.int p4)] h0 (fun v h L => v = some (.int 1) ∧ Fr n0 L) := by
  refine Con.of (plainFor_of_name pn_com_example_craterworks_craterworks_SharesStationBranchesPinLaw) #[.val (.int p1), .val (.int p2), .val (.int p3), .val (.int p4), .unset, .unset, .unset, .unset, .unset, .unset, .unset, .unset, .unset] (fun m => ef0 m p1 p2 p3 p4) ?_
  intro p e s m below meth c s₁ K hx hby hml hown hnm hret hlk hZ X0 e0
  have N0 := Fr.nil n0
  refine m_iloadN K X0.here hx hby at_0 rfl rfl ?_
  refine m_ldc K X0 hx hby hZ hown (hw _ (List.mem_of_getElem? (i := 0) rfl)) at_1 rfl ?_
  refine m_iand K X0.here hx hby (p1 &&& (2147483647 : Int32)) at_3 rfl rfl ?_
  refine m_bipush K X0.here hx hby (6 : Int32) at_4 rfl rfl ?_
  refine m_irem K X0.here hx hby (w0_1 p1) at_6 (by decide) rfl rfl ?_
  refine m_istore K X0.here hx hby #[.val (.int p1), .val (.int p2), .val (.int p3), .val (.int p4), .val (.int (w0_1 p1)), .unset, .unset, .unset, .unset, .unset, .unset, .unset, .unset] at_7 rfl rfl ?_
  refine m_iloadN K X0.here hx hby at_9 rfl rfl ?_
  refine m_ldc K X0 hx hby hZ hown (hw _ (List.mem_of_getElem? (i := 0) rfl)) at_10 rfl ?_
  refine m_iand K X0.here hx hby (p2 &&& (2147483647 : Int32)) at_12 rfl rfl ?_
  refine m_bipush K X0.here hx hby (6 : Int32) at_13 rfl rfl ?_
  refine m_irem K X0.here hx hby (w0_2 p2) at_15 (by decide) rfl rfl ?_
  refine m_istore K X0.here hx hby #[.val (.int p1), .val (.int p2), .val (.int p3), .val (.int p4), .val (.int (w0_1 p1)), .val (.int (w0_2 p2)), .unset, .unset, .unset, .unset, .unset, .unset, .unset] at_16 rfl rfl ?_
  refine m_iloadN K X0.here hx hby at_18 rfl rfl ?_
  refine m_ldc K X0 hx hby hZ hown (hw _ (List.mem_of_getElem? (i := 0) rfl)) at_19 rfl ?_
  refine m_iand K X0.here hx hby (p3 &&& (2147483647 : Int32)) at_21 rfl rfl ?_
  refine m_bipush K X0.here hx hby (6 : Int32) at_22 rfl rfl ?_
  refine m_irem K X0.here hx hby (w0_3 p3) at_24 (by decide) rfl rfl ?_
  refine m_istore K X0.here hx hby #[.val (.int p1), .val (.int p2), .val (.int p3), .val (.int p4), .val (.int (w0_1 p1)), .val (.int (w0_2 p2)), .val (.int (w0_3 p3)), .unset, .unset, .unset, .unset, .unset, .unset] at_25 rfl rfl ?_
  refine m_iloadN K X0.here hx hby at_27 rfl rfl ?_
  refine m_iconst K X0.here hx hby (1 : Int32) at_28 rfl rfl ?_
  refine m_iand K X0.here hx hby (p4 &&& (1 : Int32)) at_29 rfl rfl ?_
  obtain ⟨T2, X2, e2, st2⟩ : Mx X0 h0 (mkF m 38 #[.val (.int p1), .val (.int p2), .val (.int p3), .val (.int p4), .val (.int (w0_1 p1)), .val (.int (w0_2 p2)), .val (.int (w0_3 p3)), .unset, .unset, .unset, .unset, .unset, .unset] [(.int (w0_4 p4))]) (s₁.setTop (mkF m 30 #[.val (.int p1), .val (.int p2), .val (.int p3), .val (.int p4), .val (.int (w0_1 p1)), .val (.int (w0_2 p2)), .val (.int (w0_3 p3)), .unset, .unset, .unset, .unset, .unset, .unset] [(.int (p4 &&& (1 : Int32)))])) := by
    refine Mx.with fun K => ?_
    by_cases hc30_1 : (p4 &&& (1 : Int32)) = (0 : Int32)
    · refine m_ifY K X0.here hx hby (q := 37) at_30 ((if0 _ _).trans (teq hc30_1).1) (by decide) rfl ?_
      refine m_iconst K X0.here hx hby (0 : Int32) at_37 rfl rfl ?_
      rw [show ((w0_4 p4) : Int32) = (0 : Int32) from if_pos hc30_1]
      exact Mx.here X0 e0
    · refine m_ifN K X0.here hx hby (q := 33) at_30 ((if0 _ _).trans (feq hc30_1).1) rfl ?_
      refine m_iconst K X0.here hx hby (1 : Int32) at_33 rfl rfl ?_
      refine m_goto K X0.here hx hby (q := 38) at_34 (by decide) rfl ?_
      rw [show ((w0_4 p4) : Int32) = (1 : Int32) from if_neg hc30_1]
      exact Mx.here X0 e0
  refine k_go K st2 ?_
  refine m_istore K X2.here hx hby #[.val (.int p1), .val (.int p2), .val (.int p3), .val (.int p4), .val (.int (w0_1 p1)), .val (.int (w0_2 p2)), .val (.int (w0_3 p3)), .val (.int (w0_4 p4)), .unset, .unset, .unset, .unset, .unset] at_38 rfl rfl ?_
  refine m_iloadN K X2.here hx hby at_40 rfl rfl ?_
  refine m_iconst K X2.here hx hby (1 : Int32) at_41 rfl rfl ?_
  refine m_iushr K X2.here hx hby (w0_5 p4) at_42 rfl rfl ?_
  refine m_ldc K X2 hx hby hZ hown (hw _ (List.mem_of_getElem? (i := 1) rfl)) at_43 rfl ?_
  refine m_iand K X2.here hx hby ((w0_5 p4) &&& (1073741823 : Int32)) at_45 rfl rfl ?_
  refine m_iconst K X2.here hx hby (3 : Int32) at_46 rfl rfl ?_
  refine m_irem K X2.here hx hby (w0_6 p4) at_47 (by decide) rfl rfl ?_
  refine m_istore K X2.here hx hby #[.val (.int p1), .val (.int p2), .val (.int p3), .val (.int p4), .val (.int (w0_1 p1)), .val (.int (w0_2 p2)), .val (.int (w0_3 p3)), .val (.int (w0_4 p4)), .val (.int (w0_6 p4)), .unset, .unset, .unset, .unset] at_48 rfl rfl ?_
  refine k_newO K X2 hx hby hZ hown (hw _ (List.mem_of_getElem? (i := 2) rfl)) (hw _ (List.mem_of_getElem? (i := 3) rfl)) (hw _ (List.mem_of_getElem? (i := 4) rfl)) e2 at_50 rfl (by decide) (by decide) fun T3 h3 b3 X3 e3 E3 g3 A3 D3 => ?_
  have sz_b3 : h0.size ≤ b3 := Nat.le_trans (Nat.le_refl _) (Nat.le_of_eq g3.symm)
  have g_b3 : n0 ≤ b3 := Nat.le_trans Z0 sz_b3
  have F_modCount_b3 : Fld Z h3 b3 "java/util/AbstractList" "modCount" "I" (.int (0 : Int32)) := D3 (Or.inl (hw _ (List.mem_of_getElem? (i := 24) rfl))) (ty := .int) (by decide)
  have F_elementData_b3 : Fld Z h3 b3 "java/util/ArrayList" "elementData" "[Ljava/lang/Object;" .null := D3 (Or.inl (hw _ (List.mem_of_getElem? (i := 27) rfl))) (ty := (.array (.object "java/lang/Object"))) (by decide)
  refine m_dup K X3.here hx hby at_53 rfl rfl ?_
  refine k_callP K X3 hx hby hZ b3 [] [(.ref b3)] hown (hw _ (List.mem_of_getElem? (i := 5) rfl)) (hw _ (List.mem_of_getElem? (i := 6) rfl)) (hw _ (List.mem_of_getElem? (i := 4) rfl)) (hw _ (List.mem_of_getElem? (i := 7) rfl)) rfl (c1 l Z a0 hw b3 (0 : Int32) d1 h3 n0 (Nat.le_trans Z0 (Nat.le_trans (Nat.le_refl _) E3.1)) A3 F_modCount_b3 F_elementData_b3 S_ArrayList_DEFAULTCAPACITY_EMPTY_ELEMENTDATA (O0.ext E3) g_b3) e3 rfl rfl pd_0 rfl at_54 (by rw [hml]; rfl) rfl (by decide) (by decide) (Nat.le_of_ble_eq_true rfl) (by decide) (by decide) fun v4 T4 L4 X4 q4 => ?_
  obtain ⟨rfl, Nq4, K4⟩ := q4
  have N4 := Fr.app N0 Nq4
  refine k_none K ?_
  refine m_astore K X4.here hx hby #[.val (.int p1), .val (.int p2), .val (.int p3), .val (.int p4), .val (.int (w0_1 p1)), .val (.int (w0_2 p2)), .val (.int (w0_3 p3)), .val (.int (w0_4 p4)), .val (.int (w0_6 p4)), .val (.ref b3), .unset, .unset, .unset] at_57 rfl rfl rfl ?_
  refine k_newO K X4 hx hby hZ hown (hw _ (List.mem_of_getElem? (i := 28) rfl)) (hw _ (List.mem_of_getElem? (i := 29) rfl)) (hw _ (List.mem_of_getElem? (i := 30) rfl)) rfl at_59 rfl (by decide) (by decide) fun T5 h5 b5 X5 e5 E5 g5 A5 D5 => ?_
  have sz_b5 : h0.size ≤ b5 := Nat.le_trans (Nat.le_trans (Nat.le_trans (Nat.le_refl _) E3.1) K4.1) (Nat.le_of_eq g5.symm)
  have g_b5 : n0 ≤ b5 := Nat.le_trans Z0 sz_b5
  have F_occupied_b5 : Fld Z h5 b5 "com/example/craterworks/craterworks/SharesStation" "occupied" "[[Z" .null := D5 (Or.inr (hw _ (List.mem_of_getElem? (i := 39) rfl))) (ty := (.array (.array .boolean))) (by decide)
  have F_uncovered_b5 : Fld Z h5 b5 "com/example/craterworks/craterworks/SharesStation" "uncovered" "[Z" .null := D5 (Or.inr (hw _ (List.mem_of_getElem? (i := 41) rfl))) (ty := (.array .boolean)) (by decide)
  have F_icons_b5 : Fld Z h5 b5 "com/example/craterworks/craterworks/SharesStation" "icons" "Ljava/util/List;" .null := D5 (Or.inr (hw _ (List.mem_of_getElem? (i := 43) rfl))) (ty := (.object "java/util/List")) (by decide)
  refine m_dup K X5.here hx hby at_62 rfl rfl ?_
  refine m_aload K X5.here hx hby at_63 rfl rfl rfl ?_
  refine k_callP K X5 hx hby hZ b5 [(.ref b3)] [(.ref b5)] hown (hw _ (List.mem_of_getElem? (i := 31) rfl)) (hw _ (List.mem_of_getElem? (i := 32) rfl)) (hw _ (List.mem_of_getElem? (i := 30) rfl)) (hw _ (List.mem_of_getElem? (i := 33) rfl)) rfl (c5 l Z a0 hw b5 b3 h5 n0 (Nat.le_trans Z0 (Nat.le_trans (Nat.le_trans (Nat.le_trans (Nat.le_refl _) E3.1) K4.1) E5.1)) A5 F_occupied_b5 F_uncovered_b5 F_icons_b5 g_b5) e5 rfl rfl pd_3 rfl at_65 (by rw [hml]; rfl) rfl (by decide) (by decide) (Nat.le_of_ble_eq_true rfl) (by decide) (by decide) fun v6 T6 L6 X6 q6 => ?_
  obtain ⟨b6_bo, b6_x0, b6_x1, b6_x2, b6_bu, rfl, Nq6, K6, sq_b6_bo, sq_b6_x0, sq_b6_x1, sq_b6_x2, sq_b6_bu, nq6_bo_x0, nq6_bo_x1, nq6_bo_x2, nq6_bo_bu, nq6_x0_x1, nq6_x0_x2, nq6_x0_bu, nq6_x1_x2, nq6_x1_bu, nq6_x2_bu, Fp6_0, Fp6_1, Ap6_0, Ap6_1, Ap6_2, Ap6_3, Ap6_4⟩ := q6
  have N6 := Fr.app N4 Nq6
  have sz_b6_bo : h0.size ≤ b6_bo := Nat.le_trans (Nat.le_trans (Nat.le_trans (Nat.le_trans (Nat.le_refl _) E3.1) K4.1) E5.1) sq_b6_bo
  have g_b6_bo : n0 ≤ b6_bo := Nat.le_trans Z0 sz_b6_bo
  have sz_b6_x0 : h0.size ≤ b6_x0 := Nat.le_trans (Nat.le_trans (Nat.le_trans (Nat.le_trans (Nat.le_refl _) E3.1) K4.1) E5.1) sq_b6_x0
  have g_b6_x0 : n0 ≤ b6_x0 := Nat.le_trans Z0 sz_b6_x0
  have sz_b6_x1 : h0.size ≤ b6_x1 := Nat.le_trans (Nat.le_trans (Nat.le_trans (Nat.le_trans (Nat.le_refl _) E3.1) K4.1) E5.1) sq_b6_x1
  have g_b6_x1 : n0 ≤ b6_x1 := Nat.le_trans Z0 sz_b6_x1
  have sz_b6_x2 : h0.size ≤ b6_x2 := Nat.le_trans (Nat.le_trans (Nat.le_trans (Nat.le_trans (Nat.le_refl _) E3.1) K4.1) E5.1) sq_b6_x2
  have g_b6_x2 : n0 ≤ b6_x2 := Nat.le_trans Z0 sz_b6_x2
  have sz_b6_bu : h0.size ≤ b6_bu := Nat.le_trans (Nat.le_trans (Nat.le_trans (Nat.le_trans (Nat.le_refl _) E3.1) K4.1) E5.1) sq_b6_bu
  have g_b6_bu : n0 ≤ b6_bu := Nat.le_trans Z0 sz_b6_bu
  refine k_none K ?_
  refine m_astore K X6.here hx hby #[.val (.int p1), .val (.int p2), .val (.int p3), .val (.int p4), .val (.int (w0_1 p1)), .val (.int (w0_2 p2)), .val (.int (w0_3 p3)), .val (.int (w0_4 p4)), .val (.int (w0_6 p4)), .val (.ref b3), .val (.ref b5), .unset, .unset] at_68 rfl rfl rfl ?_
  refine m_aload K X6.here hx hby at_70 rfl rfl rfl ?_
  refine m_iconst K X6.here hx hby (0 : Int32) at_72 rfl rfl ?_
  refine m_iload K X6.here hx hby at_73 rfl rfl ?_
  refine k_callS K X6 hx hby hZ [(.ref b5), (.int (0 : Int32)), (.int (w0_1 p1))] [] hown (hw _ (List.mem_of_getElem? (i := 48) rfl)) (hw _ (List.mem_of_getElem? (i := 49) rfl)) (hw _ (List.mem_of_getElem? (i := 50) rfl)) (hw _ (List.mem_of_getElem? (i := 51) rfl)) (ct0 l Z a0 hw b5 (w0_1 p1) b6_bo b6_bu b6_x0 b6_x1 b6_x2 (0 : Int32) (0 : Int32) (0 : Int32) (w0_1 p1).toNatClampNeg T6.heap n0 (Nat.le_trans Z0 (Nat.le_trans (Nat.le_trans (Nat.le_trans (Nat.le_trans (Nat.le_refl _) E3.1) K4.1) E5.1) K6.1)) (A5.keep K6) Fp6_0 Fp6_1 Ap6_0 Ap6_1 Ap6_4 g_b6_x0 g_b6_bu (Nat.ne_of_lt (Nat.lt_of_lt_of_le (Nat.lt_of_lt_of_le A5.lt (Nat.le_refl _)) sq_b6_x0)) (Nat.ne_of_lt (Nat.lt_of_lt_of_le (Nat.lt_of_lt_of_le A5.lt (Nat.le_refl _)) sq_b6_bu)) nq6_bo_x0 nq6_bo_bu nq6_x0_bu (own_hm p1) (own_h5 p1)) rfl rfl rfl pd_4 rfl at_75 (by rw [hml]; rfl) rfl (by decide) (by decide) (Nat.le_of_ble_eq_true rfl) (by decide) (by decide) fun v7 T7 L7 X7 q7 => ?_
  obtain ⟨zu0_7, zu1_7, zu2_7, rfl, Nq7, K7, Ap7_0, Ap7_1⟩ := q7
  have N7 := Fr.app N6 Nq7
  refine k_none K ?_
  refine m_aload K X7.here hx hby at_78 rfl rfl rfl ?_
  refine m_iconst K X7.here hx hby (1 : Int32) at_80 rfl rfl ?_
  refine m_iload K X7.here hx hby at_81 rfl rfl ?_
  refine k_callS K X7 hx hby hZ [(.ref b5), (.int (1 : Int32)), (.int (w0_2 p2))] [] hown (hw _ (List.mem_of_getElem? (i := 48) rfl)) (hw _ (List.mem_of_getElem? (i := 49) rfl)) (hw _ (List.mem_of_getElem? (i := 50) rfl)) (hw _ (List.mem_of_getElem? (i := 51) rfl)) (ct1 l Z a0 hw b5 (w0_2 p2) b6_bo b6_bu b6_x0 b6_x1 b6_x2 zu0_7 zu1_7 zu2_7 (w0_2 p2).toNatClampNeg T7.heap n0 (Nat.le_trans Z0 (Nat.le_trans (Nat.le_trans (Nat.le_trans (Nat.le_trans (Nat.le_trans (Nat.le_refl _) E3.1) K4.1) E5.1) K6.1) K7.1)) ((A5.keep K6).keep K7) (Fp6_0.keep K7 (ninS (Nat.ne_of_lt (Nat.lt_of_lt_of_le (Nat.lt_of_lt_of_le A5.lt (Nat.le_refl _)) sq_b6_x0)) (ninS (Nat.ne_of_lt (Nat.lt_of_lt_of_le (Nat.lt_of_lt_of_le A5.lt (Nat.le_refl _)) sq_b6_bu)) nin0))) (Fp6_1.keep K7 (ninS (Nat.ne_of_lt (Nat.lt_of_lt_of_le (Nat.lt_of_lt_of_le A5.lt (Nat.le_refl _)) sq_b6_x0)) (ninS (Nat.ne_of_lt (Nat.lt_of_lt_of_le (Nat.lt_of_lt_of_le A5.lt (Nat.le_refl _)) sq_b6_bu)) nin0))) (Ap6_0.keep K7 (ninS nq6_bo_x0 (ninS nq6_bo_bu nin0))) (Ap6_2.keep K7 (ninS (Ne.symm nq6_x0_x1) (ninS nq6_x1_bu nin0))) Ap7_1 g_b6_x1 g_b6_bu (Nat.ne_of_lt (Nat.lt_of_lt_of_le (Nat.lt_of_lt_of_le A5.lt (Nat.le_refl _)) sq_b6_x1)) (Nat.ne_of_lt (Nat.lt_of_lt_of_le (Nat.lt_of_lt_of_le A5.lt (Nat.le_refl _)) sq_b6_bu)) nq6_bo_x1 nq6_bo_bu nq6_x1_bu (own_hm p2) (own_h5 p2)) rfl rfl rfl pd_4 rfl at_83 (by rw [hml]; rfl) rfl (by decide) (by decide) (Nat.le_of_ble_eq_true rfl) (by decide) (by decide) fun v8 T8 L8 X8 q8 => ?_
  obtain ⟨zu0_8, zu1_8, zu2_8, rfl, Nq8, K8, Ap8_0, Ap8_1⟩ := q8
  have N8 := Fr.app N7 Nq8
  refine k_none K ?_
  refine m_aload K X8.here hx hby at_86 rfl rfl rfl ?_
  refine m_iconst K X8.here hx hby (2 : Int32) at_88 rfl rfl ?_
  refine m_iload K X8.here hx hby at_89 rfl rfl ?_
  refine k_callS K X8 hx hby hZ [(.ref b5), (.int (2 : Int32)), (.int (w0_3 p3))] [] hown (hw _ (List.mem_of_getElem? (i := 48) rfl)) (hw _ (List.mem_of_getElem? (i := 49) rfl)) (hw _ (List.mem_of_getElem? (i := 50) rfl)) (hw _ (List.mem_of_getElem? (i := 51) rfl)) (ct2 l Z a0 hw b5 (w0_3 p3) b6_bo b6_bu b6_x0 b6_x1 b6_x2 zu0_8 zu1_8 zu2_8 (w0_3 p3).toNatClampNeg T8.heap n0 (Nat.le_trans Z0 (Nat.le_trans (Nat.le_trans (Nat.le_trans (Nat.le_trans (Nat.le_trans (Nat.le_trans (Nat.le_refl _) E3.1) K4.1) E5.1) K6.1) K7.1) K8.1)) (((A5.keep K6).keep K7).keep K8) ((Fp6_0.keep K7 (ninS (Nat.ne_of_lt (Nat.lt_of_lt_of_le (Nat.lt_of_lt_of_le A5.lt (Nat.le_refl _)) sq_b6_x0)) (ninS (Nat.ne_of_lt (Nat.lt_of_lt_of_le (Nat.lt_of_lt_of_le A5.lt (Nat.le_refl _)) sq_b6_bu)) nin0))).keep K8 (ninS (Nat.ne_of_lt (Nat.lt_of_lt_of_le (Nat.lt_of_lt_of_le A5.lt (Nat.le_refl _)) sq_b6_x1)) (ninS (Nat.ne_of_lt (Nat.lt_of_lt_of_le (Nat.lt_of_lt_of_le A5.lt (Nat.le_refl _)) sq_b6_bu)) nin0))) ((Fp6_1.keep K7 (ninS (Nat.ne_of_lt (Nat.lt_of_lt_of_le (Nat.lt_of_lt_of_le A5.lt (Nat.le_refl _)) sq_b6_x0)) (ninS (Nat.ne_of_lt (Nat.lt_of_lt_of_le (Nat.lt_of_lt_of_le A5.lt (Nat.le_refl _)) sq_b6_bu)) nin0))).keep K8 (ninS (Nat.ne_of_lt (Nat.lt_of_lt_of_le (Nat.lt_of_lt_of_le A5.lt (Nat.le_refl _)) sq_b6_x1)) (ninS (Nat.ne_of_lt (Nat.lt_of_lt_of_le (Nat.lt_of_lt_of_le A5.lt (Nat.le_refl _)) sq_b6_bu)) nin0))) ((Ap6_0.keep K7 (ninS nq6_bo_x0 (ninS nq6_bo_bu nin0))).keep K8 (ninS nq6_bo_x1 (ninS nq6_bo_bu nin0))) ((Ap6_3.keep K7 (ninS (Ne.symm nq6_x0_x2) (ninS nq6_x2_bu nin0))).keep K8 (ninS (Ne.symm nq6_x1_x2) (ninS nq6_x2_bu nin0))) Ap8_1 g_b6_x2 g_b6_bu (Nat.ne_of_lt (Nat.lt_of_lt_of_le (Nat.lt_of_lt_of_le A5.lt (Nat.le_refl _)) sq_b6_x2)) (Nat.ne_of_lt (Nat.lt_of_lt_of_le (Nat.lt_of_lt_of_le A5.lt (Nat.le_refl _)) sq_b6_bu)) nq6_bo_x2 nq6_bo_bu nq6_x2_bu (own_hm p3) (own_h5 p3)) rfl rfl rfl pd_4 rfl at_91 (by rw [hml]; rfl) rfl (by decide) (by decide) (Nat.le_of_ble_eq_true rfl) (by decide) (by decide) fun v9 T9 L9 X9 q9 => ?_
  obtain ⟨zu0_9, zu1_9, zu2_9, rfl, Nq9, K9, Ap9_0, Ap9_1⟩ := q9
  have N9 := Fr.app N8 Nq9
  refine k_none K ?_
  refine m_bipush K X9.here hx hby (15 : Int32) at_94 rfl rfl ?_
  refine m_iload K X9.here hx hby at_96 rfl rfl ?_
  refine m_isub K X9.here hx hby ((15 : Int32) - (w0_1 p1)) at_98 rfl rfl ?_
  refine m_iload K X9.here hx hby at_99 rfl rfl ?_
  refine m_isub K X9.here hx hby (w0_7 p1 p2) at_101 rfl rfl ?_
  refine m_iload K X9.here hx hby at_102 rfl rfl ?_
  refine m_isub K X9.here hx hby ((w0_7 p1 p2) - (w0_3 p3)) at_104 rfl rfl ?_
  refine m_istore K X9.here hx hby #[.val (.int p1), .val (.int p2), .val (.int p3), .val (.int p4), .val (.int (w0_1 p1)), .val (.int (w0_2 p2)), .val (.int (w0_3 p3)), .val (.int (w0_4 p4)), .val (.int (w0_6 p4)), .val (.ref b3), .val (.ref b5), .val (.int ((w0_7 p1 p2) - (w0_3 p3))), .unset] at_105 rfl rfl ?_
  refine m_aload K X9.here hx hby at_107 rfl rfl rfl ?_
  refine k_callV K X9 hx hby hZ b5 [] [] hown (hw _ (List.mem_of_getElem? (i := 57) rfl)) (hw _ (List.mem_of_getElem? (i := 58) rfl)) (notFace_of_selects (args := #[]) (mvT hZ (hw _ (List.mem_of_getElem? (i := 60) rfl)))) (hw _ (List.mem_of_getElem? (i := 60) rfl)) (hw _ (List.mem_of_getElem? (i := 59) rfl)) (hw _ (List.mem_of_getElem? (i := 30) rfl)) (hw _ (List.mem_of_getElem? (i := 61) rfl)) (c9 l Z a0 hw b5 b6_bo b6_x0 b6_x1 b6_x2 (cx (w0_1 p1).toNatClampNeg 0) (cx (w0_1 p1).toNatClampNeg 1) (cx (w0_1 p1).toNatClampNeg 2) (cx (w0_1 p1).toNatClampNeg 3) (cx (w0_1 p1).toNatClampNeg 4) (cx (w0_2 p2).toNatClampNeg 0) (cx (w0_2 p2).toNatClampNeg 1) (cx (w0_2 p2).toNatClampNeg 2) (cx (w0_2 p2).toNatClampNeg 3) (cx (w0_2 p2).toNatClampNeg 4) (cx (w0_3 p3).toNatClampNeg 0) (cx (w0_3 p3).toNatClampNeg 1) (cx (w0_3 p3).toNatClampNeg 2) (cx (w0_3 p3).toNatClampNeg 3) (cx (w0_3 p3).toNatClampNeg 4) T9.heap n0 (Nat.le_trans Z0 (Nat.le_trans (Nat.le_trans (Nat.le_trans (Nat.le_trans (Nat.le_trans (Nat.le_trans (Nat.le_trans (Nat.le_refl _) E3.1) K4.1) E5.1) K6.1) K7.1) K8.1) K9.1)) (((Fp6_0.keep K7 (ninS (Nat.ne_of_lt (Nat.lt_of_lt_of_le (Nat.lt_of_lt_of_le A5.lt (Nat.le_refl _)) sq_b6_x0)) (ninS (Nat.ne_of_lt (Nat.lt_of_lt_of_le (Nat.lt_of_lt_of_le A5.lt (Nat.le_refl _)) sq_b6_bu)) nin0))).keep K8 (ninS (Nat.ne_of_lt (Nat.lt_of_lt_of_le (Nat.lt_of_lt_of_le A5.lt (Nat.le_refl _)) sq_b6_x1)) (ninS (Nat.ne_of_lt (Nat.lt_of_lt_of_le (Nat.lt_of_lt_of_le A5.lt (Nat.le_refl _)) sq_b6_bu)) nin0))).keep K9 (ninS (Nat.ne_of_lt (Nat.lt_of_lt_of_le (Nat.lt_of_lt_of_le A5.lt (Nat.le_refl _)) sq_b6_x2)) (ninS (Nat.ne_of_lt (Nat.lt_of_lt_of_le (Nat.lt_of_lt_of_le A5.lt (Nat.le_refl _)) sq_b6_bu)) nin0))) (((Ap6_0.keep K7 (ninS nq6_bo_x0 (ninS nq6_bo_bu nin0))).keep K8 (ninS nq6_bo_x1 (ninS nq6_bo_bu nin0))).keep K9 (ninS nq6_bo_x2 (ninS nq6_bo_bu nin0))) ((Ap7_0.keep K8 (ninS nq6_x0_x1 (ninS nq6_x0_bu nin0))).keep K9 (ninS nq6_x0_x2 (ninS nq6_x0_bu nin0))) (Ap8_0.keep K9 (ninS nq6_x1_x2 (ninS nq6_x1_bu nin0))) Ap9_0) rfl ((((A5.keep K6).keep K7).keep K8).keep K9) rfl rfl pd_5 rfl at_109 (by rw [hml]; rfl) rfl (by decide) (by decide) (Nat.le_of_ble_eq_true rfl) (by decide) (by decide) fun v10 T10 L10 X10 q10 => ?_
  obtain ⟨rfl, e10, rfl⟩ := q10
  replace X10 := own_px X10
  refine k_some K (w := (.int (w0_8 p1 p2 p3))) ?_
  refine m_istore K X10.here hx hby #[.val (.int p1), .val (.int p2), .val (.int p3), .val (.int p4), .val (.int (w0_1 p1)), .val (.int (w0_2 p2)), .val (.int (w0_3 p3)), .val (.int (w0_4 p4)), .val (.int (w0_6 p4)), .val (.ref b3), .val (.ref b5), .val (.int ((w0_7 p1 p2) - (w0_3 p3))), .val (.int (w0_8 p1 p2 p3))] at_112 rfl rfl ?_
  refine m_iload K X10.here hx hby at_114 rfl rfl ?_
  refine m_iload K X10.here hx hby at_116 rfl rfl ?_
  refine m_icmpY K X10.here hx hby (q := 123) at_118 (teq (own_sum p1 p2 p3)).1 (by decide) rfl ?_
  rcases own_col p4 with hcol | hcol | hcol
  · rw [hcol]
    refine m_iload K X10.here hx hby at_123 rfl rfl ?_
    by_cases hc125_15 : (w0_4 p4) = (0 : Int32)
    · refine m_ifY K X10.here hx hby (q := 151) at_125 ((if0 _ _).trans (teq hc125_15).1) (by decide) rfl ?_
      refine m_aload K X10.here hx hby at_151 rfl rfl rfl ?_
      refine k_callV K X10 hx hby hZ b5 [] [] hown (hw _ (List.mem_of_getElem? (i := 57) rfl)) (hw _ (List.mem_of_getElem? (i := 58) rfl)) (notFace_of_selects (args := #[]) (mvT hZ (hw _ (List.mem_of_getElem? (i := 60) rfl)))) (hw _ (List.mem_of_getElem? (i := 60) rfl)) (hw _ (List.mem_of_getElem? (i := 59) rfl)) (hw _ (List.mem_of_getElem? (i := 30) rfl)) (hw _ (List.mem_of_getElem? (i := 61) rfl)) (c9 l Z a0 hw b5 b6_bo b6_x0 b6_x1 b6_x2 (cx (w0_1 p1).toNatClampNeg 0) (cx (w0_1 p1).toNatClampNeg 1) (cx (w0_1 p1).toNatClampNeg 2) (cx (w0_1 p1).toNatClampNeg 3) (cx (w0_1 p1).toNatClampNeg 4) (cx (w0_2 p2).toNatClampNeg 0) (cx (w0_2 p2).toNatClampNeg 1) (cx (w0_2 p2).toNatClampNeg 2) (cx (w0_2 p2).toNatClampNeg 3) (cx (w0_2 p2).toNatClampNeg 4) (cx (w0_3 p3).toNatClampNeg 0) (cx (w0_3 p3).toNatClampNeg 1) (cx (w0_3 p3).toNatClampNeg 2) (cx (w0_3 p3).toNatClampNeg 3) (cx (w0_3 p3).toNatClampNeg 4) T9.heap n0 (Nat.le_trans Z0 (Nat.le_trans (Nat.le_trans (Nat.le_trans (Nat.le_trans (Nat.le_trans (Nat.le_trans (Nat.le_trans (Nat.le_refl _) E3.1) K4.1) E5.1) K6.1) K7.1) K8.1) K9.1)) (((Fp6_0.keep K7 (ninS (Nat.ne_of_lt (Nat.lt_of_lt_of_le (Nat.lt_of_lt_of_le A5.lt (Nat.le_refl _)) sq_b6_x0)) (ninS (Nat.ne_of_lt (Nat.lt_of_lt_of_le (Nat.lt_of_lt_of_le A5.lt (Nat.le_refl _)) sq_b6_bu)) nin0))).keep K8 (ninS (Nat.ne_of_lt (Nat.lt_of_lt_of_le (Nat.lt_of_lt_of_le A5.lt (Nat.le_refl _)) sq_b6_x1)) (ninS (Nat.ne_of_lt (Nat.lt_of_lt_of_le (Nat.lt_of_lt_of_le A5.lt (Nat.le_refl _)) sq_b6_bu)) nin0))).keep K9 (ninS (Nat.ne_of_lt (Nat.lt_of_lt_of_le (Nat.lt_of_lt_of_le A5.lt (Nat.le_refl _)) sq_b6_x2)) (ninS (Nat.ne_of_lt (Nat.lt_of_lt_of_le (Nat.lt_of_lt_of_le A5.lt (Nat.le_refl _)) sq_b6_bu)) nin0))) (((Ap6_0.keep K7 (ninS nq6_bo_x0 (ninS nq6_bo_bu nin0))).keep K8 (ninS nq6_bo_x1 (ninS nq6_bo_bu nin0))).keep K9 (ninS nq6_bo_x2 (ninS nq6_bo_bu nin0))) ((Ap7_0.keep K8 (ninS nq6_x0_x1 (ninS nq6_x0_bu nin0))).keep K9 (ninS nq6_x0_x2 (ninS nq6_x0_bu nin0))) (Ap8_0.keep K9 (ninS nq6_x1_x2 (ninS nq6_x1_bu nin0))) Ap9_0) e10 ((((A5.keep K6).keep K7).keep K8).keep K9) rfl rfl pd_5 rfl at_153 (by rw [hml]; rfl) rfl (by decide) (by decide) (Nat.le_of_ble_eq_true rfl) (by decide) (by decide) fun v16 T16 L16 X16 q16 => ?_
      obtain ⟨rfl, e16, rfl⟩ := q16
      replace X16 := own_px X16
      refine k_some K (w := (.int (w0_8 p1 p2 p3))) ?_
      refine m_iload K X16.here hx hby at_156 rfl rfl ?_
      obtain ⟨T18, X18, e18, st18⟩ : Mx X16 T9.heap (mkF m 166 #[.val (.int p1), .val (.int p2), .val (.int p3), .val (.int p4), .val (.int (w0_1 p1)), .val (.int (w0_2 p2)), .val (.int (w0_3 p3)), .val (.int (w0_4 p4)), .val (.int (0 : Int32)), .val (.ref b3), .val (.ref b5), .val (.int ((w0_7 p1 p2) - (w0_3 p3))), .val (.int (w0_8 p1 p2 p3))] [(.int (w0_11 p1 p2 p3))]) (T16.setTop (mkF m 158 #[.val (.int p1), .val (.int p2), .val (.int p3), .val (.int p4), .val (.int (w0_1 p1)), .val (.int (w0_2 p2)), .val (.int (w0_3 p3)), .val (.int (w0_4 p4)), .val (.int (0 : Int32)), .val (.ref b3), .val (.ref b5), .val (.int ((w0_7 p1 p2) - (w0_3 p3))), .val (.int (w0_8 p1 p2 p3))] [(.int ((w0_7 p1 p2) - (w0_3 p3))), (.int (w0_8 p1 p2 p3))])) := by
        refine Mx.with fun K => ?_
        by_cases hc158_17 : (w0_8 p1 p2 p3) = ((w0_7 p1 p2) - (w0_3 p3))
        · refine m_icmpN K X16.here hx hby (q := 161) at_158 (teq hc158_17).2 rfl ?_
          refine m_iconst K X16.here hx hby (1 : Int32) at_161 rfl rfl ?_
          refine m_goto K X16.here hx hby (q := 166) at_162 (by decide) rfl ?_
          rw [show ((w0_11 p1 p2 p3) : Int32) = (1 : Int32) from if_pos hc158_17]
          exact Mx.here X16 e16
        · refine m_icmpY K X16.here hx hby (q := 165) at_158 (feq hc158_17).2 (by decide) rfl ?_
          refine m_iconst K X16.here hx hby (0 : Int32) at_165 rfl rfl ?_
          rw [show ((w0_11 p1 p2 p3) : Int32) = (0 : Int32) from if_neg hc158_17]
          exact Mx.here X16 e16
      refine k_go K st18 ?_
      rw [show (w0_11 p1 p2 p3) = (1 : Int32) from if_pos (own_sum p1 p2 p3)]
      exact Go.retN X18 hx hby hlk hret (by simp) at_166 (by decide) (by decide) (by decide) (⟨rfl, N9⟩)
    · refine m_ifN K X10.here hx hby (q := 128) at_125 ((if0 _ _).trans (feq hc125_15).1) rfl ?_
      refine m_aload K X10.here hx hby at_128 rfl rfl rfl ?_
      refine m_iload K X10.here hx hby at_130 rfl rfl ?_
      refine k_callV K X10 hx hby hZ b5 [(.int (0 : Int32))] [] hown (hw _ (List.mem_of_getElem? (i := 62) rfl)) (hw _ (List.mem_of_getElem? (i := 63) rfl)) (notFace_of_selects (args := #[]) (mvT hZ (hw _ (List.mem_of_getElem? (i := 65) rfl)))) (hw _ (List.mem_of_getElem? (i := 65) rfl)) (hw _ (List.mem_of_getElem? (i := 64) rfl)) (hw _ (List.mem_of_getElem? (i := 30) rfl)) (hw _ (List.mem_of_getElem? (i := 66) rfl)) (c10_0 l Z a0 hw b5 b6_bo b6_x0 b6_x1 b6_x2 (cx (w0_1 p1).toNatClampNeg 0) (cx (w0_1 p1).toNatClampNeg 1) (cx (w0_1 p1).toNatClampNeg 2) (cx (w0_1 p1).toNatClampNeg 3) (cx (w0_1 p1).toNatClampNeg 4) T9.heap n0 (Nat.le_trans Z0 (Nat.le_trans (Nat.le_trans (Nat.le_trans (Nat.le_trans (Nat.le_trans (Nat.le_trans (Nat.le_trans (Nat.le_refl _) E3.1) K4.1) E5.1) K6.1) K7.1) K8.1) K9.1)) (((Fp6_0.keep K7 (ninS (Nat.ne_of_lt (Nat.lt_of_lt_of_le (Nat.lt_of_lt_of_le A5.lt (Nat.le_refl _)) sq_b6_x0)) (ninS (Nat.ne_of_lt (Nat.lt_of_lt_of_le (Nat.lt_of_lt_of_le A5.lt (Nat.le_refl _)) sq_b6_bu)) nin0))).keep K8 (ninS (Nat.ne_of_lt (Nat.lt_of_lt_of_le (Nat.lt_of_lt_of_le A5.lt (Nat.le_refl _)) sq_b6_x1)) (ninS (Nat.ne_of_lt (Nat.lt_of_lt_of_le (Nat.lt_of_lt_of_le A5.lt (Nat.le_refl _)) sq_b6_bu)) nin0))).keep K9 (ninS (Nat.ne_of_lt (Nat.lt_of_lt_of_le (Nat.lt_of_lt_of_le A5.lt (Nat.le_refl _)) sq_b6_x2)) (ninS (Nat.ne_of_lt (Nat.lt_of_lt_of_le (Nat.lt_of_lt_of_le A5.lt (Nat.le_refl _)) sq_b6_bu)) nin0))) (((Ap6_0.keep K7 (ninS nq6_bo_x0 (ninS nq6_bo_bu nin0))).keep K8 (ninS nq6_bo_x1 (ninS nq6_bo_bu nin0))).keep K9 (ninS nq6_bo_x2 (ninS nq6_bo_bu nin0))) ((Ap7_0.keep K8 (ninS nq6_x0_x1 (ninS nq6_x0_bu nin0))).keep K9 (ninS nq6_x0_x2 (ninS nq6_x0_bu nin0)))) e10 ((((A5.keep K6).keep K7).keep K8).keep K9) rfl rfl pd_6 rfl at_132 (by rw [hml]; rfl) rfl (by decide) (by decide) (Nat.le_of_ble_eq_true rfl) (by decide) (by decide) fun v19 T19 L19 X19 q19 => ?_
      obtain ⟨rfl, e19, rfl⟩ := q19
      replace X19 := own_px X19
      refine k_some K (w := (.int (w0_9 p1))) ?_
      by_cases hc135_22 : (w0_9 p1) = (0 : Int32)
      · refine m_ifY K X19.here hx hby (q := 151) at_135 ((if0 _ _).trans (teq hc135_22).1) (by decide) rfl ?_
        refine m_aload K X19.here hx hby at_151 rfl rfl rfl ?_
        refine k_callV K X19 hx hby hZ b5 [] [] hown (hw _ (List.mem_of_getElem? (i := 57) rfl)) (hw _ (List.mem_of_getElem? (i := 58) rfl)) (notFace_of_selects (args := #[]) (mvT hZ (hw _ (List.mem_of_getElem? (i := 60) rfl)))) (hw _ (List.mem_of_getElem? (i := 60) rfl)) (hw _ (List.mem_of_getElem? (i := 59) rfl)) (hw _ (List.mem_of_getElem? (i := 30) rfl)) (hw _ (List.mem_of_getElem? (i := 61) rfl)) (c9 l Z a0 hw b5 b6_bo b6_x0 b6_x1 b6_x2 (cx (w0_1 p1).toNatClampNeg 0) (cx (w0_1 p1).toNatClampNeg 1) (cx (w0_1 p1).toNatClampNeg 2) (cx (w0_1 p1).toNatClampNeg 3) (cx (w0_1 p1).toNatClampNeg 4) (cx (w0_2 p2).toNatClampNeg 0) (cx (w0_2 p2).toNatClampNeg 1) (cx (w0_2 p2).toNatClampNeg 2) (cx (w0_2 p2).toNatClampNeg 3) (cx (w0_2 p2).toNatClampNeg 4) (cx (w0_3 p3).toNatClampNeg 0) (cx (w0_3 p3).toNatClampNeg 1) (cx (w0_3 p3).toNatClampNeg 2) (cx (w0_3 p3).toNatClampNeg 3) (cx (w0_3 p3).toNatClampNeg 4) T9.heap n0 (Nat.le_trans Z0 (Nat.le_trans (Nat.le_trans (Nat.le_trans (Nat.le_trans (Nat.le_trans (Nat.le_trans (Nat.le_trans (Nat.le_refl _) E3.1) K4.1) E5.1) K6.1) K7.1) K8.1) K9.1)) (((Fp6_0.keep K7 (ninS (Nat.ne_of_lt (Nat.lt_of_lt_of_le (Nat.lt_of_lt_of_le A5.lt (Nat.le_refl _)) sq_b6_x0)) (ninS (Nat.ne_of_lt (Nat.lt_of_lt_of_le (Nat.lt_of_lt_of_le A5.lt (Nat.le_refl _)) sq_b6_bu)) nin0))).keep K8 (ninS (Nat.ne_of_lt (Nat.lt_of_lt_of_le (Nat.lt_of_lt_of_le A5.lt (Nat.le_refl _)) sq_b6_x1)) (ninS (Nat.ne_of_lt (Nat.lt_of_lt_of_le (Nat.lt_of_lt_of_le A5.lt (Nat.le_refl _)) sq_b6_bu)) nin0))).keep K9 (ninS (Nat.ne_of_lt (Nat.lt_of_lt_of_le (Nat.lt_of_lt_of_le A5.lt (Nat.le_refl _)) sq_b6_x2)) (ninS (Nat.ne_of_lt (Nat.lt_of_lt_of_le (Nat.lt_of_lt_of_le A5.lt (Nat.le_refl _)) sq_b6_bu)) nin0))) (((Ap6_0.keep K7 (ninS nq6_bo_x0 (ninS nq6_bo_bu nin0))).keep K8 (ninS nq6_bo_x1 (ninS nq6_bo_bu nin0))).keep K9 (ninS nq6_bo_x2 (ninS nq6_bo_bu nin0))) ((Ap7_0.keep K8 (ninS nq6_x0_x1 (ninS nq6_x0_bu nin0))).keep K9 (ninS nq6_x0_x2 (ninS nq6_x0_bu nin0))) (Ap8_0.keep K9 (ninS nq6_x1_x2 (ninS nq6_x1_bu nin0))) Ap9_0) e19 ((((A5.keep K6).keep K7).keep K8).keep K9) rfl rfl pd_5 rfl at_153 (by rw [hml]; rfl) rfl (by decide) (by decide) (Nat.le_of_ble_eq_true rfl) (by decide) (by decide) fun v23 T23 L23 X23 q23 => ?_
        obtain ⟨rfl, e23, rfl⟩ := q23
        replace X23 := own_px X23
        refine k_some K (w := (.int (w0_8 p1 p2 p3))) ?_
        refine m_iload K X23.here hx hby at_156 rfl rfl ?_
        obtain ⟨T25, X25, e25, st25⟩ : Mx X23 T9.heap (mkF m 166 #[.val (.int p1), .val (.int p2), .val (.int p3), .val (.int p4), .val (.int (w0_1 p1)), .val (.int (w0_2 p2)), .val (.int (w0_3 p3)), .val (.int (w0_4 p4)), .val (.int (0 : Int32)), .val (.ref b3), .val (.ref b5), .val (.int ((w0_7 p1 p2) - (w0_3 p3))), .val (.int (w0_8 p1 p2 p3))] [(.int (w0_11 p1 p2 p3))]) (T23.setTop (mkF m 158 #[.val (.int p1), .val (.int p2), .val (.int p3), .val (.int p4), .val (.int (w0_1 p1)), .val (.int (w0_2 p2)), .val (.int (w0_3 p3)), .val (.int (w0_4 p4)), .val (.int (0 : Int32)), .val (.ref b3), .val (.ref b5), .val (.int ((w0_7 p1 p2) - (w0_3 p3))), .val (.int (w0_8 p1 p2 p3))] [(.int ((w0_7 p1 p2) - (w0_3 p3))), (.int (w0_8 p1 p2 p3))])) := by
          refine Mx.with fun K => ?_
          by_cases hc158_24 : (w0_8 p1 p2 p3) = ((w0_7 p1 p2) - (w0_3 p3))
          · refine m_icmpN K X23.here hx hby (q := 161) at_158 (teq hc158_24).2 rfl ?_
            refine m_iconst K X23.here hx hby (1 : Int32) at_161 rfl rfl ?_
            refine m_goto K X23.here hx hby (q := 166) at_162 (by decide) rfl ?_
            rw [show ((w0_11 p1 p2 p3) : Int32) = (1 : Int32) from if_pos hc158_24]
            exact Mx.here X23 e23
          · refine m_icmpY K X23.here hx hby (q := 165) at_158 (feq hc158_24).2 (by decide) rfl ?_
            refine m_iconst K X23.here hx hby (0 : Int32) at_165 rfl rfl ?_
            rw [show ((w0_11 p1 p2 p3) : Int32) = (0 : Int32) from if_neg hc158_24]
            exact Mx.here X23 e23
        refine k_go K st25 ?_
        rw [show (w0_11 p1 p2 p3) = (1 : Int32) from if_pos (own_sum p1 p2 p3)]
        exact Go.retN X25 hx hby hlk hret (by simp) at_166 (by decide) (by decide) (by decide) (⟨rfl, N9⟩)
      · refine m_ifN K X19.here hx hby (q := 138) at_135 ((if0 _ _).trans (feq hc135_22).1) rfl ?_
        refine m_aload K X19.here hx hby at_138 rfl rfl rfl ?_
        refine m_iload K X19.here hx hby at_140 rfl rfl ?_
        refine k_callV K X19 hx hby hZ b5 [(.int (0 : Int32))] [] hown (hw _ (List.mem_of_getElem? (i := 67) rfl)) (hw _ (List.mem_of_getElem? (i := 68) rfl)) (notFace_of_selects (args := #[]) (mvT hZ (hw _ (List.mem_of_getElem? (i := 70) rfl)))) (hw _ (List.mem_of_getElem? (i := 70) rfl)) (hw _ (List.mem_of_getElem? (i := 69) rfl)) (hw _ (List.mem_of_getElem? (i := 30) rfl)) (hw _ (List.mem_of_getElem? (i := 71) rfl)) (cs0 l Z a0 hw b5 b6_bo b6_bu b6_x0 b6_x1 b6_x2 (w0_1 p1).toNatClampNeg T9.heap n0 (Nat.le_trans Z0 (Nat.le_trans (Nat.le_trans (Nat.le_trans (Nat.le_trans (Nat.le_trans (Nat.le_trans (Nat.le_trans (Nat.le_refl _) E3.1) K4.1) E5.1) K6.1) K7.1) K8.1) K9.1)) ((((A5.keep K6).keep K7).keep K8).keep K9) (((Fp6_0.keep K7 (ninS (Nat.ne_of_lt (Nat.lt_of_lt_of_le (Nat.lt_of_lt_of_le A5.lt (Nat.le_refl _)) sq_b6_x0)) (ninS (Nat.ne_of_lt (Nat.lt_of_lt_of_le (Nat.lt_of_lt_of_le A5.lt (Nat.le_refl _)) sq_b6_bu)) nin0))).keep K8 (ninS (Nat.ne_of_lt (Nat.lt_of_lt_of_le (Nat.lt_of_lt_of_le A5.lt (Nat.le_refl _)) sq_b6_x1)) (ninS (Nat.ne_of_lt (Nat.lt_of_lt_of_le (Nat.lt_of_lt_of_le A5.lt (Nat.le_refl _)) sq_b6_bu)) nin0))).keep K9 (ninS (Nat.ne_of_lt (Nat.lt_of_lt_of_le (Nat.lt_of_lt_of_le A5.lt (Nat.le_refl _)) sq_b6_x2)) (ninS (Nat.ne_of_lt (Nat.lt_of_lt_of_le (Nat.lt_of_lt_of_le A5.lt (Nat.le_refl _)) sq_b6_bu)) nin0))) (((Fp6_1.keep K7 (ninS (Nat.ne_of_lt (Nat.lt_of_lt_of_le (Nat.lt_of_lt_of_le A5.lt (Nat.le_refl _)) sq_b6_x0)) (ninS (Nat.ne_of_lt (Nat.lt_of_lt_of_le (Nat.lt_of_lt_of_le A5.lt (Nat.le_refl _)) sq_b6_bu)) nin0))).keep K8 (ninS (Nat.ne_of_lt (Nat.lt_of_lt_of_le (Nat.lt_of_lt_of_le A5.lt (Nat.le_refl _)) sq_b6_x1)) (ninS (Nat.ne_of_lt (Nat.lt_of_lt_of_le (Nat.lt_of_lt_of_le A5.lt (Nat.le_refl _)) sq_b6_bu)) nin0))).keep K9 (ninS (Nat.ne_of_lt (Nat.lt_of_lt_of_le (Nat.lt_of_lt_of_le A5.lt (Nat.le_refl _)) sq_b6_x2)) (ninS (Nat.ne_of_lt (Nat.lt_of_lt_of_le (Nat.lt_of_lt_of_le A5.lt (Nat.le_refl _)) sq_b6_bu)) nin0))) (((Ap6_0.keep K7 (ninS nq6_bo_x0 (ninS nq6_bo_bu nin0))).keep K8 (ninS nq6_bo_x1 (ninS nq6_bo_bu nin0))).keep K9 (ninS nq6_bo_x2 (ninS nq6_bo_bu nin0))) ((Ap7_0.keep K8 (ninS nq6_x0_x1 (ninS nq6_x0_bu nin0))).keep K9 (ninS nq6_x0_x2 (ninS nq6_x0_bu nin0))) g_b6_x0 (Nat.ne_of_lt (Nat.lt_of_lt_of_le (Nat.lt_of_lt_of_le A5.lt (Nat.le_refl _)) sq_b6_x0)) nq6_bo_x0 (own_h1 (w0_1 p1).toNatClampNeg hc135_22) (own_h5 p1)) e19 ((((A5.keep K6).keep K7).keep K8).keep K9) rfl rfl pd_2 rfl at_142 (by rw [hml]; rfl) rfl (by decide) (by decide) (Nat.le_of_ble_eq_true rfl) (by decide) (by decide) fun v26 T26 L26 X26 q26 => ?_
        obtain ⟨rfl, Nq26, K26, Ap26_0⟩ := q26
        have N26 := Fr.app N9 Nq26
        refine k_none K ?_
        refine m_iload K X26.here hx hby at_145 rfl rfl ?_
        refine m_iconst K X26.here hx hby (1 : Int32) at_147 rfl rfl ?_
        refine m_iadd K X26.here hx hby (w0_10 p1 p2 p3) at_148 rfl rfl ?_
        refine m_istore K X26.here hx hby #[.val (.int p1), .val (.int p2), .val (.int p3), .val (.int p4), .val (.int (w0_1 p1)), .val (.int (w0_2 p2)), .val (.int (w0_3 p3)), .val (.int (w0_4 p4)), .val (.int (0 : Int32)), .val (.ref b3), .val (.ref b5), .val (.int (w0_10 p1 p2 p3)), .val (.int (w0_8 p1 p2 p3))] at_149 rfl rfl ?_
        refine m_aload K X26.here hx hby at_151 rfl rfl rfl ?_
        refine k_callV K X26 hx hby hZ b5 [] [] hown (hw _ (List.mem_of_getElem? (i := 57) rfl)) (hw _ (List.mem_of_getElem? (i := 58) rfl)) (notFace_of_selects (args := #[]) (mvT hZ (hw _ (List.mem_of_getElem? (i := 60) rfl)))) (hw _ (List.mem_of_getElem? (i := 60) rfl)) (hw _ (List.mem_of_getElem? (i := 59) rfl)) (hw _ (List.mem_of_getElem? (i := 30) rfl)) (hw _ (List.mem_of_getElem? (i := 61) rfl)) (c9 l Z a0 hw b5 b6_bo b6_x0 b6_x1 b6_x2 (sx (w0_1 p1).toNatClampNeg 0) (sx (w0_1 p1).toNatClampNeg 1) (sx (w0_1 p1).toNatClampNeg 2) (sx (w0_1 p1).toNatClampNeg 3) (sx (w0_1 p1).toNatClampNeg 4) (cx (w0_2 p2).toNatClampNeg 0) (cx (w0_2 p2).toNatClampNeg 1) (cx (w0_2 p2).toNatClampNeg 2) (cx (w0_2 p2).toNatClampNeg 3) (cx (w0_2 p2).toNatClampNeg 4) (cx (w0_3 p3).toNatClampNeg 0) (cx (w0_3 p3).toNatClampNeg 1) (cx (w0_3 p3).toNatClampNeg 2) (cx (w0_3 p3).toNatClampNeg 3) (cx (w0_3 p3).toNatClampNeg 4) T26.heap n0 (Nat.le_trans Z0 (Nat.le_trans (Nat.le_trans (Nat.le_trans (Nat.le_trans (Nat.le_trans (Nat.le_trans (Nat.le_trans (Nat.le_trans (Nat.le_refl _) E3.1) K4.1) E5.1) K6.1) K7.1) K8.1) K9.1) K26.1)) ((((Fp6_0.keep K7 (ninS (Nat.ne_of_lt (Nat.lt_of_lt_of_le (Nat.lt_of_lt_of_le A5.lt (Nat.le_refl _)) sq_b6_x0)) (ninS (Nat.ne_of_lt (Nat.lt_of_lt_of_le (Nat.lt_of_lt_of_le A5.lt (Nat.le_refl _)) sq_b6_bu)) nin0))).keep K8 (ninS (Nat.ne_of_lt (Nat.lt_of_lt_of_le (Nat.lt_of_lt_of_le A5.lt (Nat.le_refl _)) sq_b6_x1)) (ninS (Nat.ne_of_lt (Nat.lt_of_lt_of_le (Nat.lt_of_lt_of_le A5.lt (Nat.le_refl _)) sq_b6_bu)) nin0))).keep K9 (ninS (Nat.ne_of_lt (Nat.lt_of_lt_of_le (Nat.lt_of_lt_of_le A5.lt (Nat.le_refl _)) sq_b6_x2)) (ninS (Nat.ne_of_lt (Nat.lt_of_lt_of_le (Nat.lt_of_lt_of_le A5.lt (Nat.le_refl _)) sq_b6_bu)) nin0))).keep K26 (ninS (Nat.ne_of_lt (Nat.lt_of_lt_of_le (Nat.lt_of_lt_of_le A5.lt (Nat.le_refl _)) sq_b6_x0)) nin0)) ((((Ap6_0.keep K7 (ninS nq6_bo_x0 (ninS nq6_bo_bu nin0))).keep K8 (ninS nq6_bo_x1 (ninS nq6_bo_bu nin0))).keep K9 (ninS nq6_bo_x2 (ninS nq6_bo_bu nin0))).keep K26 (ninS nq6_bo_x0 nin0)) Ap26_0 ((Ap8_0.keep K9 (ninS nq6_x1_x2 (ninS nq6_x1_bu nin0))).keep K26 (ninS (Ne.symm nq6_x0_x1) nin0)) (Ap9_0.keep K26 (ninS (Ne.symm nq6_x0_x2) nin0))) rfl (((((A5.keep K6).keep K7).keep K8).keep K9).keep K26) rfl rfl pd_5 rfl at_153 (by rw [hml]; rfl) rfl (by decide) (by decide) (Nat.le_of_ble_eq_true rfl) (by decide) (by decide) fun v27 T27 L27 X27 q27 => ?_
        obtain ⟨rfl, e27, rfl⟩ := q27
        replace X27 := own_px X27
        refine k_some K (w := (.int (w0_12 p1 p2 p3))) ?_
        refine m_iload K X27.here hx hby at_156 rfl rfl ?_
        obtain ⟨T29, X29, e29, st29⟩ : Mx X27 T26.heap (mkF m 166 #[.val (.int p1), .val (.int p2), .val (.int p3), .val (.int p4), .val (.int (w0_1 p1)), .val (.int (w0_2 p2)), .val (.int (w0_3 p3)), .val (.int (w0_4 p4)), .val (.int (0 : Int32)), .val (.ref b3), .val (.ref b5), .val (.int (w0_10 p1 p2 p3)), .val (.int (w0_8 p1 p2 p3))] [(.int (w0_13 p1 p2 p3))]) (T27.setTop (mkF m 158 #[.val (.int p1), .val (.int p2), .val (.int p3), .val (.int p4), .val (.int (w0_1 p1)), .val (.int (w0_2 p2)), .val (.int (w0_3 p3)), .val (.int (w0_4 p4)), .val (.int (0 : Int32)), .val (.ref b3), .val (.ref b5), .val (.int (w0_10 p1 p2 p3)), .val (.int (w0_8 p1 p2 p3))] [(.int (w0_10 p1 p2 p3)), (.int (w0_12 p1 p2 p3))])) := by
          refine Mx.with fun K => ?_
          by_cases hc158_28 : (w0_12 p1 p2 p3) = (w0_10 p1 p2 p3)
          · refine m_icmpN K X27.here hx hby (q := 161) at_158 (teq hc158_28).2 rfl ?_
            refine m_iconst K X27.here hx hby (1 : Int32) at_161 rfl rfl ?_
            refine m_goto K X27.here hx hby (q := 166) at_162 (by decide) rfl ?_
            rw [show ((w0_13 p1 p2 p3) : Int32) = (1 : Int32) from if_pos hc158_28]
            exact Mx.here X27 e27
          · refine m_icmpY K X27.here hx hby (q := 165) at_158 (feq hc158_28).2 (by decide) rfl ?_
            refine m_iconst K X27.here hx hby (0 : Int32) at_165 rfl rfl ?_
            rw [show ((w0_13 p1 p2 p3) : Int32) = (0 : Int32) from if_neg hc158_28]
            exact Mx.here X27 e27
        refine k_go K st29 ?_
        rw [show (w0_13 p1 p2 p3) = (1 : Int32) from if_pos (own_sum0 p1 p2 p3 hc135_22)]
        exact Go.retN X29 hx hby hlk hret (by simp) at_166 (by decide) (by decide) (by decide) (⟨rfl, N26⟩)
  · rw [hcol]
    refine m_iload K X10.here hx hby at_123 rfl rfl ?_
    by_cases hc125_34 : (w0_4 p4) = (0 : Int32)
    · refine m_ifY K X10.here hx hby (q := 151) at_125 ((if0 _ _).trans (teq hc125_34).1) (by decide) rfl ?_
      refine m_aload K X10.here hx hby at_151 rfl rfl rfl ?_
      refine k_callV K X10 hx hby hZ b5 [] [] hown (hw _ (List.mem_of_getElem? (i := 57) rfl)) (hw _ (List.mem_of_getElem? (i := 58) rfl)) (notFace_of_selects (args := #[]) (mvT hZ (hw _ (List.mem_of_getElem? (i := 60) rfl)))) (hw _ (List.mem_of_getElem? (i := 60) rfl)) (hw _ (List.mem_of_getElem? (i := 59) rfl)) (hw _ (List.mem_of_getElem? (i := 30) rfl)) (hw _ (List.mem_of_getElem? (i := 61) rfl)) (c9 l Z a0 hw b5 b6_bo b6_x0 b6_x1 b6_x2 (cx (w0_1 p1).toNatClampNeg 0) (cx (w0_1 p1).toNatClampNeg 1) (cx (w0_1 p1).toNatClampNeg 2) (cx (w0_1 p1).toNatClampNeg 3) (cx (w0_1 p1).toNatClampNeg 4) (cx (w0_2 p2).toNatClampNeg 0) (cx (w0_2 p2).toNatClampNeg 1) (cx (w0_2 p2).toNatClampNeg 2) (cx (w0_2 p2).toNatClampNeg 3) (cx (w0_2 p2).toNatClampNeg 4) (cx (w0_3 p3).toNatClampNeg 0) (cx (w0_3 p3).toNatClampNeg 1) (cx (w0_3 p3).toNatClampNeg 2) (cx (w0_3 p3).toNatClampNeg 3) (cx (w0_3 p3).toNatClampNeg 4) T9.heap n0 (Nat.le_trans Z0 (Nat.le_trans (Nat.le_trans (Nat.le_trans (Nat.le_trans (Nat.le_trans (Nat.le_trans (Nat.le_trans (Nat.le_refl _) E3.1) K4.1) E5.1) K6.1) K7.1) K8.1) K9.1)) (((Fp6_0.keep K7 (ninS (Nat.ne_of_lt (Nat.lt_of_lt_of_le (Nat.lt_of_lt_of_le A5.lt (Nat.le_refl _)) sq_b6_x0)) (ninS (Nat.ne_of_lt (Nat.lt_of_lt_of_le (Nat.lt_of_lt_of_le A5.lt (Nat.le_refl _)) sq_b6_bu)) nin0))).keep K8 (ninS (Nat.ne_of_lt (Nat.lt_of_lt_of_le (Nat.lt_of_lt_of_le A5.lt (Nat.le_refl _)) sq_b6_x1)) (ninS (Nat.ne_of_lt (Nat.lt_of_lt_of_le (Nat.lt_of_lt_of_le A5.lt (Nat.le_refl _)) sq_b6_bu)) nin0))).keep K9 (ninS (Nat.ne_of_lt (Nat.lt_of_lt_of_le (Nat.lt_of_lt_of_le A5.lt (Nat.le_refl _)) sq_b6_x2)) (ninS (Nat.ne_of_lt (Nat.lt_of_lt_of_le (Nat.lt_of_lt_of_le A5.lt (Nat.le_refl _)) sq_b6_bu)) nin0))) (((Ap6_0.keep K7 (ninS nq6_bo_x0 (ninS nq6_bo_bu nin0))).keep K8 (ninS nq6_bo_x1 (ninS nq6_bo_bu nin0))).keep K9 (ninS nq6_bo_x2 (ninS nq6_bo_bu nin0))) ((Ap7_0.keep K8 (ninS nq6_x0_x1 (ninS nq6_x0_bu nin0))).keep K9 (ninS nq6_x0_x2 (ninS nq6_x0_bu nin0))) (Ap8_0.keep K9 (ninS nq6_x1_x2 (ninS nq6_x1_bu nin0))) Ap9_0) e10 ((((A5.keep K6).keep K7).keep K8).keep K9) rfl rfl pd_5 rfl at_153 (by rw [hml]; rfl) rfl (by decide) (by decide) (Nat.le_of_ble_eq_true rfl) (by decide) (by decide) fun v35 T35 L35 X35 q35 => ?_
      obtain ⟨rfl, e35, rfl⟩ := q35
      replace X35 := own_px X35
      refine k_some K (w := (.int (w0_8 p1 p2 p3))) ?_
      refine m_iload K X35.here hx hby at_156 rfl rfl ?_
      obtain ⟨T37, X37, e37, st37⟩ : Mx X35 T9.heap (mkF m 166 #[.val (.int p1), .val (.int p2), .val (.int p3), .val (.int p4), .val (.int (w0_1 p1)), .val (.int (w0_2 p2)), .val (.int (w0_3 p3)), .val (.int (w0_4 p4)), .val (.int (1 : Int32)), .val (.ref b3), .val (.ref b5), .val (.int ((w0_7 p1 p2) - (w0_3 p3))), .val (.int (w0_8 p1 p2 p3))] [(.int (w0_11 p1 p2 p3))]) (T35.setTop (mkF m 158 #[.val (.int p1), .val (.int p2), .val (.int p3), .val (.int p4), .val (.int (w0_1 p1)), .val (.int (w0_2 p2)), .val (.int (w0_3 p3)), .val (.int (w0_4 p4)), .val (.int (1 : Int32)), .val (.ref b3), .val (.ref b5), .val (.int ((w0_7 p1 p2) - (w0_3 p3))), .val (.int (w0_8 p1 p2 p3))] [(.int ((w0_7 p1 p2) - (w0_3 p3))), (.int (w0_8 p1 p2 p3))])) := by
        refine Mx.with fun K => ?_
        by_cases hc158_36 : (w0_8 p1 p2 p3) = ((w0_7 p1 p2) - (w0_3 p3))
        · refine m_icmpN K X35.here hx hby (q := 161) at_158 (teq hc158_36).2 rfl ?_
          refine m_iconst K X35.here hx hby (1 : Int32) at_161 rfl rfl ?_
          refine m_goto K X35.here hx hby (q := 166) at_162 (by decide) rfl ?_
          rw [show ((w0_11 p1 p2 p3) : Int32) = (1 : Int32) from if_pos hc158_36]
          exact Mx.here X35 e35
        · refine m_icmpY K X35.here hx hby (q := 165) at_158 (feq hc158_36).2 (by decide) rfl ?_
          refine m_iconst K X35.here hx hby (0 : Int32) at_165 rfl rfl ?_
          rw [show ((w0_11 p1 p2 p3) : Int32) = (0 : Int32) from if_neg hc158_36]
          exact Mx.here X35 e35
      refine k_go K st37 ?_
      rw [show (w0_11 p1 p2 p3) = (1 : Int32) from if_pos (own_sum p1 p2 p3)]
      exact Go.retN X37 hx hby hlk hret (by simp) at_166 (by decide) (by decide) (by decide) (⟨rfl, N9⟩)
    · refine m_ifN K X10.here hx hby (q := 128) at_125 ((if0 _ _).trans (feq hc125_34).1) rfl ?_
      refine m_aload K X10.here hx hby at_128 rfl rfl rfl ?_
      refine m_iload K X10.here hx hby at_130 rfl rfl ?_
      refine k_callV K X10 hx hby hZ b5 [(.int (1 : Int32))] [] hown (hw _ (List.mem_of_getElem? (i := 62) rfl)) (hw _ (List.mem_of_getElem? (i := 63) rfl)) (notFace_of_selects (args := #[]) (mvT hZ (hw _ (List.mem_of_getElem? (i := 65) rfl)))) (hw _ (List.mem_of_getElem? (i := 65) rfl)) (hw _ (List.mem_of_getElem? (i := 64) rfl)) (hw _ (List.mem_of_getElem? (i := 30) rfl)) (hw _ (List.mem_of_getElem? (i := 66) rfl)) (c10_1 l Z a0 hw b5 b6_bo b6_x0 b6_x1 b6_x2 (cx (w0_2 p2).toNatClampNeg 0) (cx (w0_2 p2).toNatClampNeg 1) (cx (w0_2 p2).toNatClampNeg 2) (cx (w0_2 p2).toNatClampNeg 3) (cx (w0_2 p2).toNatClampNeg 4) T9.heap n0 (Nat.le_trans Z0 (Nat.le_trans (Nat.le_trans (Nat.le_trans (Nat.le_trans (Nat.le_trans (Nat.le_trans (Nat.le_trans (Nat.le_refl _) E3.1) K4.1) E5.1) K6.1) K7.1) K8.1) K9.1)) (((Fp6_0.keep K7 (ninS (Nat.ne_of_lt (Nat.lt_of_lt_of_le (Nat.lt_of_lt_of_le A5.lt (Nat.le_refl _)) sq_b6_x0)) (ninS (Nat.ne_of_lt (Nat.lt_of_lt_of_le (Nat.lt_of_lt_of_le A5.lt (Nat.le_refl _)) sq_b6_bu)) nin0))).keep K8 (ninS (Nat.ne_of_lt (Nat.lt_of_lt_of_le (Nat.lt_of_lt_of_le A5.lt (Nat.le_refl _)) sq_b6_x1)) (ninS (Nat.ne_of_lt (Nat.lt_of_lt_of_le (Nat.lt_of_lt_of_le A5.lt (Nat.le_refl _)) sq_b6_bu)) nin0))).keep K9 (ninS (Nat.ne_of_lt (Nat.lt_of_lt_of_le (Nat.lt_of_lt_of_le A5.lt (Nat.le_refl _)) sq_b6_x2)) (ninS (Nat.ne_of_lt (Nat.lt_of_lt_of_le (Nat.lt_of_lt_of_le A5.lt (Nat.le_refl _)) sq_b6_bu)) nin0))) (((Ap6_0.keep K7 (ninS nq6_bo_x0 (ninS nq6_bo_bu nin0))).keep K8 (ninS nq6_bo_x1 (ninS nq6_bo_bu nin0))).keep K9 (ninS nq6_bo_x2 (ninS nq6_bo_bu nin0))) (Ap8_0.keep K9 (ninS nq6_x1_x2 (ninS nq6_x1_bu nin0)))) e10 ((((A5.keep K6).keep K7).keep K8).keep K9) rfl rfl pd_6 rfl at_132 (by rw [hml]; rfl) rfl (by decide) (by decide) (Nat.le_of_ble_eq_true rfl) (by decide) (by decide) fun v38 T38 L38 X38 q38 => ?_
      obtain ⟨rfl, e38, rfl⟩ := q38
      replace X38 := own_px X38
      refine k_some K (w := (.int (w0_14 p2))) ?_
      by_cases hc135_41 : (w0_14 p2) = (0 : Int32)
      · refine m_ifY K X38.here hx hby (q := 151) at_135 ((if0 _ _).trans (teq hc135_41).1) (by decide) rfl ?_
        refine m_aload K X38.here hx hby at_151 rfl rfl rfl ?_
        refine k_callV K X38 hx hby hZ b5 [] [] hown (hw _ (List.mem_of_getElem? (i := 57) rfl)) (hw _ (List.mem_of_getElem? (i := 58) rfl)) (notFace_of_selects (args := #[]) (mvT hZ (hw _ (List.mem_of_getElem? (i := 60) rfl)))) (hw _ (List.mem_of_getElem? (i := 60) rfl)) (hw _ (List.mem_of_getElem? (i := 59) rfl)) (hw _ (List.mem_of_getElem? (i := 30) rfl)) (hw _ (List.mem_of_getElem? (i := 61) rfl)) (c9 l Z a0 hw b5 b6_bo b6_x0 b6_x1 b6_x2 (cx (w0_1 p1).toNatClampNeg 0) (cx (w0_1 p1).toNatClampNeg 1) (cx (w0_1 p1).toNatClampNeg 2) (cx (w0_1 p1).toNatClampNeg 3) (cx (w0_1 p1).toNatClampNeg 4) (cx (w0_2 p2).toNatClampNeg 0) (cx (w0_2 p2).toNatClampNeg 1) (cx (w0_2 p2).toNatClampNeg 2) (cx (w0_2 p2).toNatClampNeg 3) (cx (w0_2 p2).toNatClampNeg 4) (cx (w0_3 p3).toNatClampNeg 0) (cx (w0_3 p3).toNatClampNeg 1) (cx (w0_3 p3).toNatClampNeg 2) (cx (w0_3 p3).toNatClampNeg 3) (cx (w0_3 p3).toNatClampNeg 4) T9.heap n0 (Nat.le_trans Z0 (Nat.le_trans (Nat.le_trans (Nat.le_trans (Nat.le_trans (Nat.le_trans (Nat.le_trans (Nat.le_trans (Nat.le_refl _) E3.1) K4.1) E5.1) K6.1) K7.1) K8.1) K9.1)) (((Fp6_0.keep K7 (ninS (Nat.ne_of_lt (Nat.lt_of_lt_of_le (Nat.lt_of_lt_of_le A5.lt (Nat.le_refl _)) sq_b6_x0)) (ninS (Nat.ne_of_lt (Nat.lt_of_lt_of_le (Nat.lt_of_lt_of_le A5.lt (Nat.le_refl _)) sq_b6_bu)) nin0))).keep K8 (ninS (Nat.ne_of_lt (Nat.lt_of_lt_of_le (Nat.lt_of_lt_of_le A5.lt (Nat.le_refl _)) sq_b6_x1)) (ninS (Nat.ne_of_lt (Nat.lt_of_lt_of_le (Nat.lt_of_lt_of_le A5.lt (Nat.le_refl _)) sq_b6_bu)) nin0))).keep K9 (ninS (Nat.ne_of_lt (Nat.lt_of_lt_of_le (Nat.lt_of_lt_of_le A5.lt (Nat.le_refl _)) sq_b6_x2)) (ninS (Nat.ne_of_lt (Nat.lt_of_lt_of_le (Nat.lt_of_lt_of_le A5.lt (Nat.le_refl _)) sq_b6_bu)) nin0))) (((Ap6_0.keep K7 (ninS nq6_bo_x0 (ninS nq6_bo_bu nin0))).keep K8 (ninS nq6_bo_x1 (ninS nq6_bo_bu nin0))).keep K9 (ninS nq6_bo_x2 (ninS nq6_bo_bu nin0))) ((Ap7_0.keep K8 (ninS nq6_x0_x1 (ninS nq6_x0_bu nin0))).keep K9 (ninS nq6_x0_x2 (ninS nq6_x0_bu nin0))) (Ap8_0.keep K9 (ninS nq6_x1_x2 (ninS nq6_x1_bu nin0))) Ap9_0) e38 ((((A5.keep K6).keep K7).keep K8).keep K9) rfl rfl pd_5 rfl at_153 (by rw [hml]; rfl) rfl (by decide) (by decide) (Nat.le_of_ble_eq_true rfl) (by decide) (by decide) fun v42 T42 L42 X42 q42 => ?_
        obtain ⟨rfl, e42, rfl⟩ := q42
        replace X42 := own_px X42
        refine k_some K (w := (.int (w0_8 p1 p2 p3))) ?_
        refine m_iload K X42.here hx hby at_156 rfl rfl ?_
        obtain ⟨T44, X44, e44, st44⟩ : Mx X42 T9.heap (mkF m 166 #[.val (.int p1), .val (.int p2), .val (.int p3), .val (.int p4), .val (.int (w0_1 p1)), .val (.int (w0_2 p2)), .val (.int (w0_3 p3)), .val (.int (w0_4 p4)), .val (.int (1 : Int32)), .val (.ref b3), .val (.ref b5), .val (.int ((w0_7 p1 p2) - (w0_3 p3))), .val (.int (w0_8 p1 p2 p3))] [(.int (w0_11 p1 p2 p3))]) (T42.setTop (mkF m 158 #[.val (.int p1), .val (.int p2), .val (.int p3), .val (.int p4), .val (.int (w0_1 p1)), .val (.int (w0_2 p2)), .val (.int (w0_3 p3)), .val (.int (w0_4 p4)), .val (.int (1 : Int32)), .val (.ref b3), .val (.ref b5), .val (.int ((w0_7 p1 p2) - (w0_3 p3))), .val (.int (w0_8 p1 p2 p3))] [(.int ((w0_7 p1 p2) - (w0_3 p3))), (.int (w0_8 p1 p2 p3))])) := by
          refine Mx.with fun K => ?_
          by_cases hc158_43 : (w0_8 p1 p2 p3) = ((w0_7 p1 p2) - (w0_3 p3))
          · refine m_icmpN K X42.here hx hby (q := 161) at_158 (teq hc158_43).2 rfl ?_
            refine m_iconst K X42.here hx hby (1 : Int32) at_161 rfl rfl ?_
            refine m_goto K X42.here hx hby (q := 166) at_162 (by decide) rfl ?_
            rw [show ((w0_11 p1 p2 p3) : Int32) = (1 : Int32) from if_pos hc158_43]
            exact Mx.here X42 e42
          · refine m_icmpY K X42.here hx hby (q := 165) at_158 (feq hc158_43).2 (by decide) rfl ?_
            refine m_iconst K X42.here hx hby (0 : Int32) at_165 rfl rfl ?_
            rw [show ((w0_11 p1 p2 p3) : Int32) = (0 : Int32) from if_neg hc158_43]
            exact Mx.here X42 e42
        refine k_go K st44 ?_
        rw [show (w0_11 p1 p2 p3) = (1 : Int32) from if_pos (own_sum p1 p2 p3)]
        exact Go.retN X44 hx hby hlk hret (by simp) at_166 (by decide) (by decide) (by decide) (⟨rfl, N9⟩)
      · refine m_ifN K X38.here hx hby (q := 138) at_135 ((if0 _ _).trans (feq hc135_41).1) rfl ?_
        refine m_aload K X38.here hx hby at_138 rfl rfl rfl ?_
        refine m_iload K X38.here hx hby at_140 rfl rfl ?_
        refine k_callV K X38 hx hby hZ b5 [(.int (1 : Int32))] [] hown (hw _ (List.mem_of_getElem? (i := 67) rfl)) (hw _ (List.mem_of_getElem? (i := 68) rfl)) (notFace_of_selects (args := #[]) (mvT hZ (hw _ (List.mem_of_getElem? (i := 70) rfl)))) (hw _ (List.mem_of_getElem? (i := 70) rfl)) (hw _ (List.mem_of_getElem? (i := 69) rfl)) (hw _ (List.mem_of_getElem? (i := 30) rfl)) (hw _ (List.mem_of_getElem? (i := 71) rfl)) (cs1 l Z a0 hw b5 b6_bo b6_bu b6_x0 b6_x1 b6_x2 (w0_2 p2).toNatClampNeg T9.heap n0 (Nat.le_trans Z0 (Nat.le_trans (Nat.le_trans (Nat.le_trans (Nat.le_trans (Nat.le_trans (Nat.le_trans (Nat.le_trans (Nat.le_refl _) E3.1) K4.1) E5.1) K6.1) K7.1) K8.1) K9.1)) ((((A5.keep K6).keep K7).keep K8).keep K9) (((Fp6_0.keep K7 (ninS (Nat.ne_of_lt (Nat.lt_of_lt_of_le (Nat.lt_of_lt_of_le A5.lt (Nat.le_refl _)) sq_b6_x0)) (ninS (Nat.ne_of_lt (Nat.lt_of_lt_of_le (Nat.lt_of_lt_of_le A5.lt (Nat.le_refl _)) sq_b6_bu)) nin0))).keep K8 (ninS (Nat.ne_of_lt (Nat.lt_of_lt_of_le (Nat.lt_of_lt_of_le A5.lt (Nat.le_refl _)) sq_b6_x1)) (ninS (Nat.ne_of_lt (Nat.lt_of_lt_of_le (Nat.lt_of_lt_of_le A5.lt (Nat.le_refl _)) sq_b6_bu)) nin0))).keep K9 (ninS (Nat.ne_of_lt (Nat.lt_of_lt_of_le (Nat.lt_of_lt_of_le A5.lt (Nat.le_refl _)) sq_b6_x2)) (ninS (Nat.ne_of_lt (Nat.lt_of_lt_of_le (Nat.lt_of_lt_of_le A5.lt (Nat.le_refl _)) sq_b6_bu)) nin0))) (((Fp6_1.keep K7 (ninS (Nat.ne_of_lt (Nat.lt_of_lt_of_le (Nat.lt_of_lt_of_le A5.lt (Nat.le_refl _)) sq_b6_x0)) (ninS (Nat.ne_of_lt (Nat.lt_of_lt_of_le (Nat.lt_of_lt_of_le A5.lt (Nat.le_refl _)) sq_b6_bu)) nin0))).keep K8 (ninS (Nat.ne_of_lt (Nat.lt_of_lt_of_le (Nat.lt_of_lt_of_le A5.lt (Nat.le_refl _)) sq_b6_x1)) (ninS (Nat.ne_of_lt (Nat.lt_of_lt_of_le (Nat.lt_of_lt_of_le A5.lt (Nat.le_refl _)) sq_b6_bu)) nin0))).keep K9 (ninS (Nat.ne_of_lt (Nat.lt_of_lt_of_le (Nat.lt_of_lt_of_le A5.lt (Nat.le_refl _)) sq_b6_x2)) (ninS (Nat.ne_of_lt (Nat.lt_of_lt_of_le (Nat.lt_of_lt_of_le A5.lt (Nat.le_refl _)) sq_b6_bu)) nin0))) (((Ap6_0.keep K7 (ninS nq6_bo_x0 (ninS nq6_bo_bu nin0))).keep K8 (ninS nq6_bo_x1 (ninS nq6_bo_bu nin0))).keep K9 (ninS nq6_bo_x2 (ninS nq6_bo_bu nin0))) (Ap8_0.keep K9 (ninS nq6_x1_x2 (ninS nq6_x1_bu nin0))) g_b6_x1 (Nat.ne_of_lt (Nat.lt_of_lt_of_le (Nat.lt_of_lt_of_le A5.lt (Nat.le_refl _)) sq_b6_x1)) nq6_bo_x1 (own_h1 (w0_2 p2).toNatClampNeg hc135_41) (own_h5 p2)) e38 ((((A5.keep K6).keep K7).keep K8).keep K9) rfl rfl pd_2 rfl at_142 (by rw [hml]; rfl) rfl (by decide) (by decide) (Nat.le_of_ble_eq_true rfl) (by decide) (by decide) fun v45 T45 L45 X45 q45 => ?_
        obtain ⟨rfl, Nq45, K45, Ap45_0⟩ := q45
        have N45 := Fr.app N9 Nq45
        refine k_none K ?_
        refine m_iload K X45.here hx hby at_145 rfl rfl ?_
        refine m_iconst K X45.here hx hby (1 : Int32) at_147 rfl rfl ?_
        refine m_iadd K X45.here hx hby (w0_10 p1 p2 p3) at_148 rfl rfl ?_
        refine m_istore K X45.here hx hby #[.val (.int p1), .val (.int p2), .val (.int p3), .val (.int p4), .val (.int (w0_1 p1)), .val (.int (w0_2 p2)), .val (.int (w0_3 p3)), .val (.int (w0_4 p4)), .val (.int (1 : Int32)), .val (.ref b3), .val (.ref b5), .val (.int (w0_10 p1 p2 p3)), .val (.int (w0_8 p1 p2 p3))] at_149 rfl rfl ?_
        refine m_aload K X45.here hx hby at_151 rfl rfl rfl ?_
        refine k_callV K X45 hx hby hZ b5 [] [] hown (hw _ (List.mem_of_getElem? (i := 57) rfl)) (hw _ (List.mem_of_getElem? (i := 58) rfl)) (notFace_of_selects (args := #[]) (mvT hZ (hw _ (List.mem_of_getElem? (i := 60) rfl)))) (hw _ (List.mem_of_getElem? (i := 60) rfl)) (hw _ (List.mem_of_getElem? (i := 59) rfl)) (hw _ (List.mem_of_getElem? (i := 30) rfl)) (hw _ (List.mem_of_getElem? (i := 61) rfl)) (c9 l Z a0 hw b5 b6_bo b6_x0 b6_x1 b6_x2 (cx (w0_1 p1).toNatClampNeg 0) (cx (w0_1 p1).toNatClampNeg 1) (cx (w0_1 p1).toNatClampNeg 2) (cx (w0_1 p1).toNatClampNeg 3) (cx (w0_1 p1).toNatClampNeg 4) (sx (w0_2 p2).toNatClampNeg 0) (sx (w0_2 p2).toNatClampNeg 1) (sx (w0_2 p2).toNatClampNeg 2) (sx (w0_2 p2).toNatClampNeg 3) (sx (w0_2 p2).toNatClampNeg 4) (cx (w0_3 p3).toNatClampNeg 0) (cx (w0_3 p3).toNatClampNeg 1) (cx (w0_3 p3).toNatClampNeg 2) (cx (w0_3 p3).toNatClampNeg 3) (cx (w0_3 p3).toNatClampNeg 4) T45.heap n0 (Nat.le_trans Z0 (Nat.le_trans (Nat.le_trans (Nat.le_trans (Nat.le_trans (Nat.le_trans (Nat.le_trans (Nat.le_trans (Nat.le_trans (Nat.le_refl _) E3.1) K4.1) E5.1) K6.1) K7.1) K8.1) K9.1) K45.1)) ((((Fp6_0.keep K7 (ninS (Nat.ne_of_lt (Nat.lt_of_lt_of_le (Nat.lt_of_lt_of_le A5.lt (Nat.le_refl _)) sq_b6_x0)) (ninS (Nat.ne_of_lt (Nat.lt_of_lt_of_le (Nat.lt_of_lt_of_le A5.lt (Nat.le_refl _)) sq_b6_bu)) nin0))).keep K8 (ninS (Nat.ne_of_lt (Nat.lt_of_lt_of_le (Nat.lt_of_lt_of_le A5.lt (Nat.le_refl _)) sq_b6_x1)) (ninS (Nat.ne_of_lt (Nat.lt_of_lt_of_le (Nat.lt_of_lt_of_le A5.lt (Nat.le_refl _)) sq_b6_bu)) nin0))).keep K9 (ninS (Nat.ne_of_lt (Nat.lt_of_lt_of_le (Nat.lt_of_lt_of_le A5.lt (Nat.le_refl _)) sq_b6_x2)) (ninS (Nat.ne_of_lt (Nat.lt_of_lt_of_le (Nat.lt_of_lt_of_le A5.lt (Nat.le_refl _)) sq_b6_bu)) nin0))).keep K45 (ninS (Nat.ne_of_lt (Nat.lt_of_lt_of_le (Nat.lt_of_lt_of_le A5.lt (Nat.le_refl _)) sq_b6_x1)) nin0)) ((((Ap6_0.keep K7 (ninS nq6_bo_x0 (ninS nq6_bo_bu nin0))).keep K8 (ninS nq6_bo_x1 (ninS nq6_bo_bu nin0))).keep K9 (ninS nq6_bo_x2 (ninS nq6_bo_bu nin0))).keep K45 (ninS nq6_bo_x1 nin0)) (((Ap7_0.keep K8 (ninS nq6_x0_x1 (ninS nq6_x0_bu nin0))).keep K9 (ninS nq6_x0_x2 (ninS nq6_x0_bu nin0))).keep K45 (ninS nq6_x0_x1 nin0)) Ap45_0 (Ap9_0.keep K45 (ninS (Ne.symm nq6_x1_x2) nin0))) rfl (((((A5.keep K6).keep K7).keep K8).keep K9).keep K45) rfl rfl pd_5 rfl at_153 (by rw [hml]; rfl) rfl (by decide) (by decide) (Nat.le_of_ble_eq_true rfl) (by decide) (by decide) fun v46 T46 L46 X46 q46 => ?_
        obtain ⟨rfl, e46, rfl⟩ := q46
        replace X46 := own_px X46
        refine k_some K (w := (.int (w0_15 p1 p2 p3))) ?_
        refine m_iload K X46.here hx hby at_156 rfl rfl ?_
        obtain ⟨T48, X48, e48, st48⟩ : Mx X46 T45.heap (mkF m 166 #[.val (.int p1), .val (.int p2), .val (.int p3), .val (.int p4), .val (.int (w0_1 p1)), .val (.int (w0_2 p2)), .val (.int (w0_3 p3)), .val (.int (w0_4 p4)), .val (.int (1 : Int32)), .val (.ref b3), .val (.ref b5), .val (.int (w0_10 p1 p2 p3)), .val (.int (w0_8 p1 p2 p3))] [(.int (w0_16 p1 p2 p3))]) (T46.setTop (mkF m 158 #[.val (.int p1), .val (.int p2), .val (.int p3), .val (.int p4), .val (.int (w0_1 p1)), .val (.int (w0_2 p2)), .val (.int (w0_3 p3)), .val (.int (w0_4 p4)), .val (.int (1 : Int32)), .val (.ref b3), .val (.ref b5), .val (.int (w0_10 p1 p2 p3)), .val (.int (w0_8 p1 p2 p3))] [(.int (w0_10 p1 p2 p3)), (.int (w0_15 p1 p2 p3))])) := by
          refine Mx.with fun K => ?_
          by_cases hc158_47 : (w0_15 p1 p2 p3) = (w0_10 p1 p2 p3)
          · refine m_icmpN K X46.here hx hby (q := 161) at_158 (teq hc158_47).2 rfl ?_
            refine m_iconst K X46.here hx hby (1 : Int32) at_161 rfl rfl ?_
            refine m_goto K X46.here hx hby (q := 166) at_162 (by decide) rfl ?_
            rw [show ((w0_16 p1 p2 p3) : Int32) = (1 : Int32) from if_pos hc158_47]
            exact Mx.here X46 e46
          · refine m_icmpY K X46.here hx hby (q := 165) at_158 (feq hc158_47).2 (by decide) rfl ?_
            refine m_iconst K X46.here hx hby (0 : Int32) at_165 rfl rfl ?_
            rw [show ((w0_16 p1 p2 p3) : Int32) = (0 : Int32) from if_neg hc158_47]
            exact Mx.here X46 e46
        refine k_go K st48 ?_
        rw [show (w0_16 p1 p2 p3) = (1 : Int32) from if_pos (own_sum1 p1 p2 p3 hc135_41)]
        exact Go.retN X48 hx hby hlk hret (by simp) at_166 (by decide) (by decide) (by decide) (⟨rfl, N45⟩)
  · rw [hcol]
    refine m_iload K X10.here hx hby at_123 rfl rfl ?_
    by_cases hc125_53 : (w0_4 p4) = (0 : Int32)
    · refine m_ifY K X10.here hx hby (q := 151) at_125 ((if0 _ _).trans (teq hc125_53).1) (by decide) rfl ?_
      refine m_aload K X10.here hx hby at_151 rfl rfl rfl ?_
      refine k_callV K X10 hx hby hZ b5 [] [] hown (hw _ (List.mem_of_getElem? (i := 57) rfl)) (hw _ (List.mem_of_getElem? (i := 58) rfl)) (notFace_of_selects (args := #[]) (mvT hZ (hw _ (List.mem_of_getElem? (i := 60) rfl)))) (hw _ (List.mem_of_getElem? (i := 60) rfl)) (hw _ (List.mem_of_getElem? (i := 59) rfl)) (hw _ (List.mem_of_getElem? (i := 30) rfl)) (hw _ (List.mem_of_getElem? (i := 61) rfl)) (c9 l Z a0 hw b5 b6_bo b6_x0 b6_x1 b6_x2 (cx (w0_1 p1).toNatClampNeg 0) (cx (w0_1 p1).toNatClampNeg 1) (cx (w0_1 p1).toNatClampNeg 2) (cx (w0_1 p1).toNatClampNeg 3) (cx (w0_1 p1).toNatClampNeg 4) (cx (w0_2 p2).toNatClampNeg 0) (cx (w0_2 p2).toNatClampNeg 1) (cx (w0_2 p2).toNatClampNeg 2) (cx (w0_2 p2).toNatClampNeg 3) (cx (w0_2 p2).toNatClampNeg 4) (cx (w0_3 p3).toNatClampNeg 0) (cx (w0_3 p3).toNatClampNeg 1) (cx (w0_3 p3).toNatClampNeg 2) (cx (w0_3 p3).toNatClampNeg 3) (cx (w0_3 p3).toNatClampNeg 4) T9.heap n0 (Nat.le_trans Z0 (Nat.le_trans (Nat.le_trans (Nat.le_trans (Nat.le_trans (Nat.le_trans (Nat.le_trans (Nat.le_trans (Nat.le_refl _) E3.1) K4.1) E5.1) K6.1) K7.1) K8.1) K9.1)) (((Fp6_0.keep K7 (ninS (Nat.ne_of_lt (Nat.lt_of_lt_of_le (Nat.lt_of_lt_of_le A5.lt (Nat.le_refl _)) sq_b6_x0)) (ninS (Nat.ne_of_lt (Nat.lt_of_lt_of_le (Nat.lt_of_lt_of_le A5.lt (Nat.le_refl _)) sq_b6_bu)) nin0))).keep K8 (ninS (Nat.ne_of_lt (Nat.lt_of_lt_of_le (Nat.lt_of_lt_of_le A5.lt (Nat.le_refl _)) sq_b6_x1)) (ninS (Nat.ne_of_lt (Nat.lt_of_lt_of_le (Nat.lt_of_lt_of_le A5.lt (Nat.le_refl _)) sq_b6_bu)) nin0))).keep K9 (ninS (Nat.ne_of_lt (Nat.lt_of_lt_of_le (Nat.lt_of_lt_of_le A5.lt (Nat.le_refl _)) sq_b6_x2)) (ninS (Nat.ne_of_lt (Nat.lt_of_lt_of_le (Nat.lt_of_lt_of_le A5.lt (Nat.le_refl _)) sq_b6_bu)) nin0))) (((Ap6_0.keep K7 (ninS nq6_bo_x0 (ninS nq6_bo_bu nin0))).keep K8 (ninS nq6_bo_x1 (ninS nq6_bo_bu nin0))).keep K9 (ninS nq6_bo_x2 (ninS nq6_bo_bu nin0))) ((Ap7_0.keep K8 (ninS nq6_x0_x1 (ninS nq6_x0_bu nin0))).keep K9 (ninS nq6_x0_x2 (ninS nq6_x0_bu nin0))) (Ap8_0.keep K9 (ninS nq6_x1_x2 (ninS nq6_x1_bu nin0))) Ap9_0) e10 ((((A5.keep K6).keep K7).keep K8).keep K9) rfl rfl pd_5 rfl at_153 (by rw [hml]; rfl) rfl (by decide) (by decide) (Nat.le_of_ble_eq_true rfl) (by decide) (by decide) fun v54 T54 L54 X54 q54 => ?_
      obtain ⟨rfl, e54, rfl⟩ := q54
      replace X54 := own_px X54
      refine k_some K (w := (.int (w0_8 p1 p2 p3))) ?_
      refine m_iload K X54.here hx hby at_156 rfl rfl ?_
      obtain ⟨T56, X56, e56, st56⟩ : Mx X54 T9.heap (mkF m 166 #[.val (.int p1), .val (.int p2), .val (.int p3), .val (.int p4), .val (.int (w0_1 p1)), .val (.int (w0_2 p2)), .val (.int (w0_3 p3)), .val (.int (w0_4 p4)), .val (.int (2 : Int32)), .val (.ref b3), .val (.ref b5), .val (.int ((w0_7 p1 p2) - (w0_3 p3))), .val (.int (w0_8 p1 p2 p3))] [(.int (w0_11 p1 p2 p3))]) (T54.setTop (mkF m 158 #[.val (.int p1), .val (.int p2), .val (.int p3), .val (.int p4), .val (.int (w0_1 p1)), .val (.int (w0_2 p2)), .val (.int (w0_3 p3)), .val (.int (w0_4 p4)), .val (.int (2 : Int32)), .val (.ref b3), .val (.ref b5), .val (.int ((w0_7 p1 p2) - (w0_3 p3))), .val (.int (w0_8 p1 p2 p3))] [(.int ((w0_7 p1 p2) - (w0_3 p3))), (.int (w0_8 p1 p2 p3))])) := by
        refine Mx.with fun K => ?_
        by_cases hc158_55 : (w0_8 p1 p2 p3) = ((w0_7 p1 p2) - (w0_3 p3))
        · refine m_icmpN K X54.here hx hby (q := 161) at_158 (teq hc158_55).2 rfl ?_
          refine m_iconst K X54.here hx hby (1 : Int32) at_161 rfl rfl ?_
          refine m_goto K X54.here hx hby (q := 166) at_162 (by decide) rfl ?_
          rw [show ((w0_11 p1 p2 p3) : Int32) = (1 : Int32) from if_pos hc158_55]
          exact Mx.here X54 e54
        · refine m_icmpY K X54.here hx hby (q := 165) at_158 (feq hc158_55).2 (by decide) rfl ?_
          refine m_iconst K X54.here hx hby (0 : Int32) at_165 rfl rfl ?_
          rw [show ((w0_11 p1 p2 p3) : Int32) = (0 : Int32) from if_neg hc158_55]
          exact Mx.here X54 e54
      refine k_go K st56 ?_
      rw [show (w0_11 p1 p2 p3) = (1 : Int32) from if_pos (own_sum p1 p2 p3)]
      exact Go.retN X56 hx hby hlk hret (by simp) at_166 (by decide) (by decide) (by decide) (⟨rfl, N9⟩)
    · refine m_ifN K X10.here hx hby (q := 128) at_125 ((if0 _ _).trans (feq hc125_53).1) rfl ?_
      refine m_aload K X10.here hx hby at_128 rfl rfl rfl ?_
      refine m_iload K X10.here hx hby at_130 rfl rfl ?_
      refine k_callV K X10 hx hby hZ b5 [(.int (2 : Int32))] [] hown (hw _ (List.mem_of_getElem? (i := 62) rfl)) (hw _ (List.mem_of_getElem? (i := 63) rfl)) (notFace_of_selects (args := #[]) (mvT hZ (hw _ (List.mem_of_getElem? (i := 65) rfl)))) (hw _ (List.mem_of_getElem? (i := 65) rfl)) (hw _ (List.mem_of_getElem? (i := 64) rfl)) (hw _ (List.mem_of_getElem? (i := 30) rfl)) (hw _ (List.mem_of_getElem? (i := 66) rfl)) (c10_2 l Z a0 hw b5 b6_bo b6_x0 b6_x1 b6_x2 (cx (w0_3 p3).toNatClampNeg 0) (cx (w0_3 p3).toNatClampNeg 1) (cx (w0_3 p3).toNatClampNeg 2) (cx (w0_3 p3).toNatClampNeg 3) (cx (w0_3 p3).toNatClampNeg 4) T9.heap n0 (Nat.le_trans Z0 (Nat.le_trans (Nat.le_trans (Nat.le_trans (Nat.le_trans (Nat.le_trans (Nat.le_trans (Nat.le_trans (Nat.le_refl _) E3.1) K4.1) E5.1) K6.1) K7.1) K8.1) K9.1)) (((Fp6_0.keep K7 (ninS (Nat.ne_of_lt (Nat.lt_of_lt_of_le (Nat.lt_of_lt_of_le A5.lt (Nat.le_refl _)) sq_b6_x0)) (ninS (Nat.ne_of_lt (Nat.lt_of_lt_of_le (Nat.lt_of_lt_of_le A5.lt (Nat.le_refl _)) sq_b6_bu)) nin0))).keep K8 (ninS (Nat.ne_of_lt (Nat.lt_of_lt_of_le (Nat.lt_of_lt_of_le A5.lt (Nat.le_refl _)) sq_b6_x1)) (ninS (Nat.ne_of_lt (Nat.lt_of_lt_of_le (Nat.lt_of_lt_of_le A5.lt (Nat.le_refl _)) sq_b6_bu)) nin0))).keep K9 (ninS (Nat.ne_of_lt (Nat.lt_of_lt_of_le (Nat.lt_of_lt_of_le A5.lt (Nat.le_refl _)) sq_b6_x2)) (ninS (Nat.ne_of_lt (Nat.lt_of_lt_of_le (Nat.lt_of_lt_of_le A5.lt (Nat.le_refl _)) sq_b6_bu)) nin0))) (((Ap6_0.keep K7 (ninS nq6_bo_x0 (ninS nq6_bo_bu nin0))).keep K8 (ninS nq6_bo_x1 (ninS nq6_bo_bu nin0))).keep K9 (ninS nq6_bo_x2 (ninS nq6_bo_bu nin0))) Ap9_0) e10 ((((A5.keep K6).keep K7).keep K8).keep K9) rfl rfl pd_6 rfl at_132 (by rw [hml]; rfl) rfl (by decide) (by decide) (Nat.le_of_ble_eq_true rfl) (by decide) (by decide) fun v57 T57 L57 X57 q57 => ?_
      obtain ⟨rfl, e57, rfl⟩ := q57
      replace X57 := own_px X57
      refine k_some K (w := (.int (w0_17 p3))) ?_
      by_cases hc135_60 : (w0_17 p3) = (0 : Int32)
      · refine m_ifY K X57.here hx hby (q := 151) at_135 ((if0 _ _).trans (teq hc135_60).1) (by decide) rfl ?_
        refine m_aload K X57.here hx hby at_151 rfl rfl rfl ?_
        refine k_callV K X57 hx hby hZ b5 [] [] hown (hw _ (List.mem_of_getElem? (i := 57) rfl)) (hw _ (List.mem_of_getElem? (i := 58) rfl)) (notFace_of_selects (args := #[]) (mvT hZ (hw _ (List.mem_of_getElem? (i := 60) rfl)))) (hw _ (List.mem_of_getElem? (i := 60) rfl)) (hw _ (List.mem_of_getElem? (i := 59) rfl)) (hw _ (List.mem_of_getElem? (i := 30) rfl)) (hw _ (List.mem_of_getElem? (i := 61) rfl)) (c9 l Z a0 hw b5 b6_bo b6_x0 b6_x1 b6_x2 (cx (w0_1 p1).toNatClampNeg 0) (cx (w0_1 p1).toNatClampNeg 1) (cx (w0_1 p1).toNatClampNeg 2) (cx (w0_1 p1).toNatClampNeg 3) (cx (w0_1 p1).toNatClampNeg 4) (cx (w0_2 p2).toNatClampNeg 0) (cx (w0_2 p2).toNatClampNeg 1) (cx (w0_2 p2).toNatClampNeg 2) (cx (w0_2 p2).toNatClampNeg 3) (cx (w0_2 p2).toNatClampNeg 4) (cx (w0_3 p3).toNatClampNeg 0) (cx (w0_3 p3).toNatClampNeg 1) (cx (w0_3 p3).toNatClampNeg 2) (cx (w0_3 p3).toNatClampNeg 3) (cx (w0_3 p3).toNatClampNeg 4) T9.heap n0 (Nat.le_trans Z0 (Nat.le_trans (Nat.le_trans (Nat.le_trans (Nat.le_trans (Nat.le_trans (Nat.le_trans (Nat.le_trans (Nat.le_refl _) E3.1) K4.1) E5.1) K6.1) K7.1) K8.1) K9.1)) (((Fp6_0.keep K7 (ninS (Nat.ne_of_lt (Nat.lt_of_lt_of_le (Nat.lt_of_lt_of_le A5.lt (Nat.le_refl _)) sq_b6_x0)) (ninS (Nat.ne_of_lt (Nat.lt_of_lt_of_le (Nat.lt_of_lt_of_le A5.lt (Nat.le_refl _)) sq_b6_bu)) nin0))).keep K8 (ninS (Nat.ne_of_lt (Nat.lt_of_lt_of_le (Nat.lt_of_lt_of_le A5.lt (Nat.le_refl _)) sq_b6_x1)) (ninS (Nat.ne_of_lt (Nat.lt_of_lt_of_le (Nat.lt_of_lt_of_le A5.lt (Nat.le_refl _)) sq_b6_bu)) nin0))).keep K9 (ninS (Nat.ne_of_lt (Nat.lt_of_lt_of_le (Nat.lt_of_lt_of_le A5.lt (Nat.le_refl _)) sq_b6_x2)) (ninS (Nat.ne_of_lt (Nat.lt_of_lt_of_le (Nat.lt_of_lt_of_le A5.lt (Nat.le_refl _)) sq_b6_bu)) nin0))) (((Ap6_0.keep K7 (ninS nq6_bo_x0 (ninS nq6_bo_bu nin0))).keep K8 (ninS nq6_bo_x1 (ninS nq6_bo_bu nin0))).keep K9 (ninS nq6_bo_x2 (ninS nq6_bo_bu nin0))) ((Ap7_0.keep K8 (ninS nq6_x0_x1 (ninS nq6_x0_bu nin0))).keep K9 (ninS nq6_x0_x2 (ninS nq6_x0_bu nin0))) (Ap8_0.keep K9 (ninS nq6_x1_x2 (ninS nq6_x1_bu nin0))) Ap9_0) e57 ((((A5.keep K6).keep K7).keep K8).keep K9) rfl rfl pd_5 rfl at_153 (by rw [hml]; rfl) rfl (by decide) (by decide) (Nat.le_of_ble_eq_true rfl) (by decide) (by decide) fun v61 T61 L61 X61 q61 => ?_
        obtain ⟨rfl, e61, rfl⟩ := q61
        replace X61 := own_px X61
        refine k_some K (w := (.int (w0_8 p1 p2 p3))) ?_
        refine m_iload K X61.here hx hby at_156 rfl rfl ?_
        obtain ⟨T63, X63, e63, st63⟩ : Mx X61 T9.heap (mkF m 166 #[.val (.int p1), .val (.int p2), .val (.int p3), .val (.int p4), .val (.int (w0_1 p1)), .val (.int (w0_2 p2)), .val (.int (w0_3 p3)), .val (.int (w0_4 p4)), .val (.int (2 : Int32)), .val (.ref b3), .val (.ref b5), .val (.int ((w0_7 p1 p2) - (w0_3 p3))), .val (.int (w0_8 p1 p2 p3))] [(.int (w0_11 p1 p2 p3))]) (T61.setTop (mkF m 158 #[.val (.int p1), .val (.int p2), .val (.int p3), .val (.int p4), .val (.int (w0_1 p1)), .val (.int (w0_2 p2)), .val (.int (w0_3 p3)), .val (.int (w0_4 p4)), .val (.int (2 : Int32)), .val (.ref b3), .val (.ref b5), .val (.int ((w0_7 p1 p2) - (w0_3 p3))), .val (.int (w0_8 p1 p2 p3))] [(.int ((w0_7 p1 p2) - (w0_3 p3))), (.int (w0_8 p1 p2 p3))])) := by
          refine Mx.with fun K => ?_
          by_cases hc158_62 : (w0_8 p1 p2 p3) = ((w0_7 p1 p2) - (w0_3 p3))
          · refine m_icmpN K X61.here hx hby (q := 161) at_158 (teq hc158_62).2 rfl ?_
            refine m_iconst K X61.here hx hby (1 : Int32) at_161 rfl rfl ?_
            refine m_goto K X61.here hx hby (q := 166) at_162 (by decide) rfl ?_
            rw [show ((w0_11 p1 p2 p3) : Int32) = (1 : Int32) from if_pos hc158_62]
            exact Mx.here X61 e61
          · refine m_icmpY K X61.here hx hby (q := 165) at_158 (feq hc158_62).2 (by decide) rfl ?_
            refine m_iconst K X61.here hx hby (0 : Int32) at_165 rfl rfl ?_
            rw [show ((w0_11 p1 p2 p3) : Int32) = (0 : Int32) from if_neg hc158_62]
            exact Mx.here X61 e61
        refine k_go K st63 ?_
        rw [show (w0_11 p1 p2 p3) = (1 : Int32) from if_pos (own_sum p1 p2 p3)]
        exact Go.retN X63 hx hby hlk hret (by simp) at_166 (by decide) (by decide) (by decide) (⟨rfl, N9⟩)
      · refine m_ifN K X57.here hx hby (q := 138) at_135 ((if0 _ _).trans (feq hc135_60).1) rfl ?_
        refine m_aload K X57.here hx hby at_138 rfl rfl rfl ?_
        refine m_iload K X57.here hx hby at_140 rfl rfl ?_
        refine k_callV K X57 hx hby hZ b5 [(.int (2 : Int32))] [] hown (hw _ (List.mem_of_getElem? (i := 67) rfl)) (hw _ (List.mem_of_getElem? (i := 68) rfl)) (notFace_of_selects (args := #[]) (mvT hZ (hw _ (List.mem_of_getElem? (i := 70) rfl)))) (hw _ (List.mem_of_getElem? (i := 70) rfl)) (hw _ (List.mem_of_getElem? (i := 69) rfl)) (hw _ (List.mem_of_getElem? (i := 30) rfl)) (hw _ (List.mem_of_getElem? (i := 71) rfl)) (cs2 l Z a0 hw b5 b6_bo b6_bu b6_x0 b6_x1 b6_x2 (w0_3 p3).toNatClampNeg T9.heap n0 (Nat.le_trans Z0 (Nat.le_trans (Nat.le_trans (Nat.le_trans (Nat.le_trans (Nat.le_trans (Nat.le_trans (Nat.le_trans (Nat.le_refl _) E3.1) K4.1) E5.1) K6.1) K7.1) K8.1) K9.1)) ((((A5.keep K6).keep K7).keep K8).keep K9) (((Fp6_0.keep K7 (ninS (Nat.ne_of_lt (Nat.lt_of_lt_of_le (Nat.lt_of_lt_of_le A5.lt (Nat.le_refl _)) sq_b6_x0)) (ninS (Nat.ne_of_lt (Nat.lt_of_lt_of_le (Nat.lt_of_lt_of_le A5.lt (Nat.le_refl _)) sq_b6_bu)) nin0))).keep K8 (ninS (Nat.ne_of_lt (Nat.lt_of_lt_of_le (Nat.lt_of_lt_of_le A5.lt (Nat.le_refl _)) sq_b6_x1)) (ninS (Nat.ne_of_lt (Nat.lt_of_lt_of_le (Nat.lt_of_lt_of_le A5.lt (Nat.le_refl _)) sq_b6_bu)) nin0))).keep K9 (ninS (Nat.ne_of_lt (Nat.lt_of_lt_of_le (Nat.lt_of_lt_of_le A5.lt (Nat.le_refl _)) sq_b6_x2)) (ninS (Nat.ne_of_lt (Nat.lt_of_lt_of_le (Nat.lt_of_lt_of_le A5.lt (Nat.le_refl _)) sq_b6_bu)) nin0))) (((Fp6_1.keep K7 (ninS (Nat.ne_of_lt (Nat.lt_of_lt_of_le (Nat.lt_of_lt_of_le A5.lt (Nat.le_refl _)) sq_b6_x0)) (ninS (Nat.ne_of_lt (Nat.lt_of_lt_of_le (Nat.lt_of_lt_of_le A5.lt (Nat.le_refl _)) sq_b6_bu)) nin0))).keep K8 (ninS (Nat.ne_of_lt (Nat.lt_of_lt_of_le (Nat.lt_of_lt_of_le A5.lt (Nat.le_refl _)) sq_b6_x1)) (ninS (Nat.ne_of_lt (Nat.lt_of_lt_of_le (Nat.lt_of_lt_of_le A5.lt (Nat.le_refl _)) sq_b6_bu)) nin0))).keep K9 (ninS (Nat.ne_of_lt (Nat.lt_of_lt_of_le (Nat.lt_of_lt_of_le A5.lt (Nat.le_refl _)) sq_b6_x2)) (ninS (Nat.ne_of_lt (Nat.lt_of_lt_of_le (Nat.lt_of_lt_of_le A5.lt (Nat.le_refl _)) sq_b6_bu)) nin0))) (((Ap6_0.keep K7 (ninS nq6_bo_x0 (ninS nq6_bo_bu nin0))).keep K8 (ninS nq6_bo_x1 (ninS nq6_bo_bu nin0))).keep K9 (ninS nq6_bo_x2 (ninS nq6_bo_bu nin0))) Ap9_0 g_b6_x2 (Nat.ne_of_lt (Nat.lt_of_lt_of_le (Nat.lt_of_lt_of_le A5.lt (Nat.le_refl _)) sq_b6_x2)) nq6_bo_x2 (own_h1 (w0_3 p3).toNatClampNeg hc135_60) (own_h5 p3)) e57 ((((A5.keep K6).keep K7).keep K8).keep K9) rfl rfl pd_2 rfl at_142 (by rw [hml]; rfl) rfl (by decide) (by decide) (Nat.le_of_ble_eq_true rfl) (by decide) (by decide) fun v64 T64 L64 X64 q64 => ?_
        obtain ⟨rfl, Nq64, K64, Ap64_0⟩ := q64
        have N64 := Fr.app N9 Nq64
        refine k_none K ?_
        refine m_iload K X64.here hx hby at_145 rfl rfl ?_
        refine m_iconst K X64.here hx hby (1 : Int32) at_147 rfl rfl ?_
        refine m_iadd K X64.here hx hby (w0_10 p1 p2 p3) at_148 rfl rfl ?_
        refine m_istore K X64.here hx hby #[.val (.int p1), .val (.int p2), .val (.int p3), .val (.int p4), .val (.int (w0_1 p1)), .val (.int (w0_2 p2)), .val (.int (w0_3 p3)), .val (.int (w0_4 p4)), .val (.int (2 : Int32)), .val (.ref b3), .val (.ref b5), .val (.int (w0_10 p1 p2 p3)), .val (.int (w0_8 p1 p2 p3))] at_149 rfl rfl ?_
        refine m_aload K X64.here hx hby at_151 rfl rfl rfl ?_
        refine k_callV K X64 hx hby hZ b5 [] [] hown (hw _ (List.mem_of_getElem? (i := 57) rfl)) (hw _ (List.mem_of_getElem? (i := 58) rfl)) (notFace_of_selects (args := #[]) (mvT hZ (hw _ (List.mem_of_getElem? (i := 60) rfl)))) (hw _ (List.mem_of_getElem? (i := 60) rfl)) (hw _ (List.mem_of_getElem? (i := 59) rfl)) (hw _ (List.mem_of_getElem? (i := 30) rfl)) (hw _ (List.mem_of_getElem? (i := 61) rfl)) (c9 l Z a0 hw b5 b6_bo b6_x0 b6_x1 b6_x2 (cx (w0_1 p1).toNatClampNeg 0) (cx (w0_1 p1).toNatClampNeg 1) (cx (w0_1 p1).toNatClampNeg 2) (cx (w0_1 p1).toNatClampNeg 3) (cx (w0_1 p1).toNatClampNeg 4) (cx (w0_2 p2).toNatClampNeg 0) (cx (w0_2 p2).toNatClampNeg 1) (cx (w0_2 p2).toNatClampNeg 2) (cx (w0_2 p2).toNatClampNeg 3) (cx (w0_2 p2).toNatClampNeg 4) (sx (w0_3 p3).toNatClampNeg 0) (sx (w0_3 p3).toNatClampNeg 1) (sx (w0_3 p3).toNatClampNeg 2) (sx (w0_3 p3).toNatClampNeg 3) (sx (w0_3 p3).toNatClampNeg 4) T64.heap n0 (Nat.le_trans Z0 (Nat.le_trans (Nat.le_trans (Nat.le_trans (Nat.le_trans (Nat.le_trans (Nat.le_trans (Nat.le_trans (Nat.le_trans (Nat.le_refl _) E3.1) K4.1) E5.1) K6.1) K7.1) K8.1) K9.1) K64.1)) ((((Fp6_0.keep K7 (ninS (Nat.ne_of_lt (Nat.lt_of_lt_of_le (Nat.lt_of_lt_of_le A5.lt (Nat.le_refl _)) sq_b6_x0)) (ninS (Nat.ne_of_lt (Nat.lt_of_lt_of_le (Nat.lt_of_lt_of_le A5.lt (Nat.le_refl _)) sq_b6_bu)) nin0))).keep K8 (ninS (Nat.ne_of_lt (Nat.lt_of_lt_of_le (Nat.lt_of_lt_of_le A5.lt (Nat.le_refl _)) sq_b6_x1)) (ninS (Nat.ne_of_lt (Nat.lt_of_lt_of_le (Nat.lt_of_lt_of_le A5.lt (Nat.le_refl _)) sq_b6_bu)) nin0))).keep K9 (ninS (Nat.ne_of_lt (Nat.lt_of_lt_of_le (Nat.lt_of_lt_of_le A5.lt (Nat.le_refl _)) sq_b6_x2)) (ninS (Nat.ne_of_lt (Nat.lt_of_lt_of_le (Nat.lt_of_lt_of_le A5.lt (Nat.le_refl _)) sq_b6_bu)) nin0))).keep K64 (ninS (Nat.ne_of_lt (Nat.lt_of_lt_of_le (Nat.lt_of_lt_of_le A5.lt (Nat.le_refl _)) sq_b6_x2)) nin0)) ((((Ap6_0.keep K7 (ninS nq6_bo_x0 (ninS nq6_bo_bu nin0))).keep K8 (ninS nq6_bo_x1 (ninS nq6_bo_bu nin0))).keep K9 (ninS nq6_bo_x2 (ninS nq6_bo_bu nin0))).keep K64 (ninS nq6_bo_x2 nin0)) (((Ap7_0.keep K8 (ninS nq6_x0_x1 (ninS nq6_x0_bu nin0))).keep K9 (ninS nq6_x0_x2 (ninS nq6_x0_bu nin0))).keep K64 (ninS nq6_x0_x2 nin0)) ((Ap8_0.keep K9 (ninS nq6_x1_x2 (ninS nq6_x1_bu nin0))).keep K64 (ninS nq6_x1_x2 nin0)) Ap64_0) rfl (((((A5.keep K6).keep K7).keep K8).keep K9).keep K64) rfl rfl pd_5 rfl at_153 (by rw [hml]; rfl) rfl (by decide) (by decide) (Nat.le_of_ble_eq_true rfl) (by decide) (by decide) fun v65 T65 L65 X65 q65 => ?_
        obtain ⟨rfl, e65, rfl⟩ := q65
        replace X65 := own_px X65
        refine k_some K (w := (.int (w0_18 p1 p2 p3))) ?_
        refine m_iload K X65.here hx hby at_156 rfl rfl ?_
        obtain ⟨T67, X67, e67, st67⟩ : Mx X65 T64.heap (mkF m 166 #[.val (.int p1), .val (.int p2), .val (.int p3), .val (.int p4), .val (.int (w0_1 p1)), .val (.int (w0_2 p2)), .val (.int (w0_3 p3)), .val (.int (w0_4 p4)), .val (.int (2 : Int32)), .val (.ref b3), .val (.ref b5), .val (.int (w0_10 p1 p2 p3)), .val (.int (w0_8 p1 p2 p3))] [(.int (w0_19 p1 p2 p3))]) (T65.setTop (mkF m 158 #[.val (.int p1), .val (.int p2), .val (.int p3), .val (.int p4), .val (.int (w0_1 p1)), .val (.int (w0_2 p2)), .val (.int (w0_3 p3)), .val (.int (w0_4 p4)), .val (.int (2 : Int32)), .val (.ref b3), .val (.ref b5), .val (.int (w0_10 p1 p2 p3)), .val (.int (w0_8 p1 p2 p3))] [(.int (w0_10 p1 p2 p3)), (.int (w0_18 p1 p2 p3))])) := by
          refine Mx.with fun K => ?_
          by_cases hc158_66 : (w0_18 p1 p2 p3) = (w0_10 p1 p2 p3)
          · refine m_icmpN K X65.here hx hby (q := 161) at_158 (teq hc158_66).2 rfl ?_
            refine m_iconst K X65.here hx hby (1 : Int32) at_161 rfl rfl ?_
            refine m_goto K X65.here hx hby (q := 166) at_162 (by decide) rfl ?_
            rw [show ((w0_19 p1 p2 p3) : Int32) = (1 : Int32) from if_pos hc158_66]
            exact Mx.here X65 e65
          · refine m_icmpY K X65.here hx hby (q := 165) at_158 (feq hc158_66).2 (by decide) rfl ?_
            refine m_iconst K X65.here hx hby (0 : Int32) at_165 rfl rfl ?_
            rw [show ((w0_19 p1 p2 p3) : Int32) = (0 : Int32) from if_neg hc158_66]
            exact Mx.here X65 e65
        refine k_go K st67 ?_
        rw [show (w0_19 p1 p2 p3) = (1 : Int32) from if_pos (own_sum2 p1 p2 p3 hc135_60)]
        exact Go.retN X67 hx hby hlk hret (by simp) at_166 (by decide) (by decide) (by decide) (⟨rfl, N64⟩)
set_option maxRecDepth 65536 in
set_option maxHeartbeats 40000000 in
theorem comes_1 {Post : Tables → Env → Array Value → State → Outcome → State → Prop} (hpost : ∀ tb e args s v u, (limb_1_1.after args s (.returned v) u = true ∧ limb_1_2.after args s (.returned v) u = true ∧ True) → FrameEnd s (.returned v) u (Jvm.fieldLocs frame_1_writes args s ++ Jvm.arrayLocs frame_1_arrays args s ++ Jvm.staticLocs frame_1_statics s) 24 128 → Post tb e args s (.returned v) u) :
    ArmFor flags0 classFile x code maxLocals ret World_1 tables_1 room_1 Calls_1 rest_1 Pre_1 Post := by
  intro l hfl _ _ p e ha hc hk s m args below hf hA hF happ hP
  obtain ⟨hcalls, hrest, hpre⟩ := hP
  obtain ⟨-, -, -, hnamed, -, -, -, hat⟩ := (Spec.applies_iff hf).mp happ
  obtain ⟨hg, hn⟩ := and_e (Cond.before_iff.mp (show (Jvm.Cond.and given_1 narrow_1).before args s = true from hpre))
  obtain ⟨g1, g2⟩ := and_e hg
  obtain ⟨w0, w1, w2, w3, rfl⟩ : ∃ w0 w1 w2 w3 : Value, args = #[w0, w1, w2, w3] := by
    have hs : args.size = 4 := by simpa [Cond.value, given_1] using g1
    obtain ⟨L⟩ := args
    match L, hs with
    | [w0, w1, w2, w3], _ => exact ⟨w0, w1, w2, w3, rfl⟩
  obtain ⟨k0, r0⟩ := and_e g2
  obtain ⟨i0, z0⟩ := is_v k0
  obtain rfl : w0 = (.int i0) := Option.some.inj z0
  obtain ⟨k1, r1⟩ := and_e r0
  obtain ⟨i1, z1⟩ := is_v k1
  obtain rfl : w1 = (.int i1) := Option.some.inj z1
  obtain ⟨k2, r2⟩ := and_e r1
  obtain ⟨i2, z2⟩ := is_v k2
  obtain rfl : w2 = (.int i2) := Option.some.inj z2
  obtain ⟨i3, z3⟩ := is_v r2
  obtain rfl : w3 = (.int i3) := Option.some.inj z3
  have hw := fun d (hd : d ∈ tables_1) => atoms_spec (ws := Jvm.Cond.code x code maxLocals ret :: tables_1) hat d (List.mem_cons_of_mem _ hd)
  have hfit : Fit s := fun {y c} hc i hi => by
    obtain ⟨ha, rfl⟩ := Array.getElem?_eq_some_iff.mp hc
    have q := List.all_eq_true.mp ((Array.all_eq_true_iff_forall_mem.mp hF) _ (Array.getElem_mem ha)) i (List.mem_range.mpr hi)
    simpa [Array.getElem?_eq_getElem hi] using q
  obtain ⟨hsets, hown0⟩ := atoms_of _ (rest_1_c_eq ▸ (show rest_1_c.before _ s = true from hrest))
  obtain ⟨d1, e_D⟩ := exa_v (Cond.before_iff.mp (hsets _ (List.mem_of_getElem? (i := 7) rfl)))
  have S_D := Sta.start e_D (Or.inr ⟨(hw _ (List.mem_of_getElem? (i := 4) rfl)), (hsets _ (List.mem_of_getElem? (i := 2) rfl))⟩)
  obtain ⟨n, o, h1, h2, h3, _, L, rfl, ⟨rfl, N⟩, hq⟩ := law0 l s _ hw tables_1 i0 i1 i2 i3 d1 s.heap s.heap.size (Nat.le_refl _) S_D (Old.start s) p e ha hc hk s m _ below hf ((Spec.applies_iff_loose hf).mp happ).1 ⟨rfl, State.Warmed39.refl s, rfl⟩ trivial
  refine ⟨n, _, h1, h2, h3, hpost _ _ _ _ _ _ ⟨Cond.after_iff.mpr rfl, Cond.after_iff.mpr (eq_i res_at (Term.int_eval (1)) rfl), trivial⟩ ⟨hq.1, hq.2.1, (hq.2.2.sift fun y hy => Or.inr (N y hy)).mono (by decide) (by decide)⟩⟩
theorem main_1_1 : Claimed_1_1 := comes_1 fun _ _ _ _ _ _ h hF => ⟨h.1, hF⟩
theorem main_1_2 : Claimed_1_2 := comes_1 fun _ _ _ _ _ _ h hF => ⟨h.2.1, hF⟩
end Jvm.Pilot.@@N@@
namespace Jvm.Pilot.@@N@@
open Jvm Jvm.ClassFile Sem Op Lib Jvm.Free Jvm.Stand Jvm.Pilot.@@N@@.Jvm.D
/-! MADE BY PROGRAM (witnessworld.py) out of the Statement's table words and the real class files: 21 classes; the members and pool entries that the words name. The judged class is class 1, her method 2. -/
namespace start1
open Jvm.ClassFile
def u (s : String) : CpInfo := .utf8 (stringToUtf16 s)
/-- a pool by its gaps: so many unusable entries, then the entry; so many at the end -/
def gap : Nat → List CpInfo → List CpInfo
  | 0, r => r
  | n + 1, r => .unusable :: gap n r
def poolList (es : List (Nat × CpInfo)) (last : Nat) : List CpInfo := es.foldr (fun e r => gap e.1 (e.2 :: r)) (gap last [])
def pool (es : List (Nat × CpInfo)) (last : Nat) : Array CpInfo := ⟨poolList es last⟩
def fileOf (pool : Array CpInfo) (this : Nat) (attrs : Array Attribute := #[]) (ms : Array MethodInfo := #[]) (fl : Nat := 33) (sup : Nat := 0) (ifs : Array Nat := #[]) (fds : Array FieldInfo := #[]) : ClassFile where
  minorVersion := 0
  majorVersion := 65
  constantPool := pool
  accessFlags := fl
  thisClass := this
  superClass := sup
  interfaces := ifs
  fields := fds
  methods := ms
  attributes := attrs
def plain (name : String) (sup : Option ClassId) : Class where
  name := name
  kind := .ordinary
  loader := none
  accessFlags := 33
  super := sup
  interfaces := #[]
  cf := none
  fields := #[]
  methods := #[]
  instanceTypes := #[]
  staticTypes := #[]
  resolved := #[]
  callSites := []
  init := .initialized
  statics := none
  mirror := none

def pool0 : Array CpInfo := pool [(5, u "<init>"), (0, u "()V"), (1, .class_ 10), (1, u "java/lang/Object")] 113

def k0c0 : Code := { maxStack := 0, maxLocals := 1, code := object_method_1_code, exceptionTable := #[], attributes := #[] }
def k0m0 : Method := { name := "<init>", desc := "()V", sig := { parameters := [], returnType := none }, accessFlags := 1, code := some k0c0 }
/-- java/lang/Object -/
def k0 : Class := { plain "java/lang/Object" none with
  accessFlags := 33
  interfaces := #[]
  cf := some (fileOf pool0 8 #[] #[{ accessFlags := 1, nameIndex := 5, descriptorIndex := 6, attributes := #[] }] 33 0 #[] #[])
  fields := #[]
  methods := #[k0m0]
  instanceTypes := #[]
  staticTypes := #[]
  resolved := Array.replicate 124 none
  statics := none }

def pool1 : Array CpInfo := pool [(2, .class_ 4), (0, .nameAndType 5 6), (0, u "java/lang/Object"), (0, u "<init>"), (0, u "()V"), (0, .methodref 8 9), (0, .class_ 10), (0, .nameAndType 11 12), (0, u "com/example/craterworks/craterworks/SharesStation"), (0, u "take"), (0, u "(I)V"), (0, .integer 2147483647), (0, .integer 1073741823), (0, .class_ 16), (0, u "java/util/ArrayList"), (0, .methodref 15 3), (0, .methodref 8 19), (0, .nameAndType 5 20), (0, u "(Ljava/util/List;)V"), (0, .methodref 22 23), (0, .class_ 24), (0, .nameAndType 25 26), (0, u "com/example/craterworks/craterworks/SharesStationBranchesPinLaw"), (0, u "takeN"), (0, u "(Lcom/example/craterworks/craterworks/SharesStation;II)V"), (0, .methodref 8 28), (0, .nameAndType 29 30), (0, u "branches"), (0, u "()I"), (0, .methodref 8 32), (0, .nameAndType 33 34), (0, u "hasRoom"), (0, u "(I)Z"), (0, .methodref 8 36), (0, .nameAndType 37 12), (0, u "sendHome"), (3, u "law"), (0, u "(IIII)Z")] 4

def k1m0 : Method := { name := "<init>", desc := "()V", sig := { parameters := [], returnType := none }, accessFlags := 1, code := none }
def k1c1 : Code := { maxStack := 2, maxLocals := 3, code := method_2_code, exceptionTable := #[], attributes := #[] }
def k1m1 : Method := { name := "takeN", desc := "(Lcom/example/craterworks/craterworks/SharesStation;II)V", sig := { parameters := [(.object "com/example/craterworks/craterworks/SharesStation"), .int, .int], returnType := none }, accessFlags := 10, code := some k1c1 }
def k1c2 : Code := { maxStack := 3, maxLocals := 13, code := code, exceptionTable := #[], attributes := #[] }
def k1m2 : Method := { name := "law", desc := "(IIII)Z", sig := { parameters := [.int, .int, .int, .int], returnType := some .boolean }, accessFlags := 9, code := some k1c2 }
/-- com/example/craterworks/craterworks/SharesStationBranchesPinLaw -/
def k1 : Class := { plain "com/example/craterworks/craterworks/SharesStationBranchesPinLaw" (some 0) with
  accessFlags := 49
  interfaces := #[]
  cf := some (fileOf pool1 22 #[] #[{ accessFlags := 1, nameIndex := 5, descriptorIndex := 6, attributes := #[] }, { accessFlags := 10, nameIndex := 25, descriptorIndex := 26, attributes := #[] }, { accessFlags := 9, nameIndex := 41, descriptorIndex := 42, attributes := #[] }] 49 2 #[] #[])
  fields := #[]
  methods := #[k1m0, k1m1, k1m2]
  instanceTypes := #[]
  staticTypes := #[]
  resolved := Array.replicate 47 none
  statics := none }

def pool2 : Array CpInfo := pool [(8, .class_ 10), (1, u "java/lang/Iterable"), (24, .class_ 36), (0, u "java/lang/Object")] 25

/-- java/lang/Iterable -/
def k2 : Class := { plain "java/lang/Iterable" (some 0) with
  accessFlags := 1537
  interfaces := #[]
  cf := some (fileOf pool2 8 #[] #[] 1537 35 #[] #[])
  fields := #[]
  methods := #[]
  instanceTypes := #[]
  staticTypes := #[]
  resolved := Array.replicate 62 none
  statics := none }

def pool3 : Array CpInfo := pool [(10, .class_ 12), (1, u "java/util/Collection"), (47, .class_ 61), (0, u "java/lang/Object"), (0, .class_ 63), (0, u "java/lang/Iterable")] 51

/-- java/util/Collection -/
def k3 : Class := { plain "java/util/Collection" (some 0) with
  accessFlags := 1537
  interfaces := #[2]
  cf := some (fileOf pool3 10 #[] #[] 1537 60 #[62] #[])
  fields := #[]
  methods := #[]
  instanceTypes := #[]
  staticTypes := #[]
  resolved := Array.replicate 115 none
  statics := none }

def pool4 : Array CpInfo := pool [(1, .methodref 2 3), (0, .class_ 4), (0, .nameAndType 5 6), (0, u "java/lang/Object"), (0, u "<init>"), (0, u "()V"), (1, .class_ 10), (1, u "java/util/AbstractCollection"), (66, .class_ 78), (0, u "java/util/Collection")] 81

def k4c0 : Code := { maxStack := 1, maxLocals := 1, code := jdk_22_method_1_code, exceptionTable := #[], attributes := #[] }
def k4m0 : Method := { name := "<init>", desc := "()V", sig := { parameters := [], returnType := none }, accessFlags := 4, code := some k4c0 }
/-- java/util/AbstractCollection -/
def k4 : Class := { plain "java/util/AbstractCollection" (some 0) with
  accessFlags := 1057
  interfaces := #[3]
  cf := some (fileOf pool4 8 #[] #[{ accessFlags := 4, nameIndex := 5, descriptorIndex := 6, attributes := #[] }] 1057 2 #[77] #[])
  fields := #[]
  methods := #[k4m0]
  instanceTypes := #[]
  staticTypes := #[]
  resolved := Array.replicate 160 none
  statics := none }

def pool5 : Array CpInfo := pool [(8, .class_ 10), (1, u "java/util/SequencedCollection"), (15, .class_ 27), (0, u "java/lang/Object"), (0, .class_ 29), (0, u "java/util/Collection")] 27

/-- java/util/SequencedCollection -/
def k5 : Class := { plain "java/util/SequencedCollection" (some 0) with
  accessFlags := 1537
  interfaces := #[3]
  cf := some (fileOf pool5 8 #[] #[] 1537 26 #[28] #[])
  fields := #[]
  methods := #[]
  instanceTypes := #[]
  staticTypes := #[]
  resolved := Array.replicate 57 none
  statics := none }

def pool6 : Array CpInfo := pool [(8, .class_ 10), (1, u "java/util/List"), (92, .class_ 104), (0, u "java/lang/Object"), (15, .class_ 121), (0, u "java/util/SequencedCollection")] 129

/-- java/util/List -/
def k6 : Class := { plain "java/util/List" (some 0) with
  accessFlags := 1537
  interfaces := #[5]
  cf := some (fileOf pool6 8 #[] #[] 1537 103 #[120] #[])
  fields := #[]
  methods := #[]
  instanceTypes := #[]
  staticTypes := #[]
  resolved := Array.replicate 251 none
  statics := none }

def pool7 : Array CpInfo := pool [(1, .methodref 2 3), (0, .class_ 4), (0, .nameAndType 5 6), (0, u "java/util/AbstractCollection"), (0, u "<init>"), (0, u "()V"), (0, .fieldref 8 9), (0, .class_ 10), (0, .nameAndType 11 12), (0, u "java/util/AbstractList"), (0, u "modCount"), (0, u "I"), (64, .class_ 78), (0, u "java/util/AbstractList$Itr"), (3, .class_ 83), (0, u "java/util/AbstractList$ListItr"), (9, .class_ 94), (0, u "java/util/AbstractList$RandomAccessSubList"), (3, .class_ 99), (0, u "java/util/AbstractList$SubList"), (33, .class_ 134), (0, u "java/util/List"), (73, .class_ 209), (0, u "java/util/AbstractList$SubList$1"), (0, .class_ 211), (0, u "java/util/AbstractList$RandomAccessSpliterator")] 6

def k7c0 : Code := { maxStack := 2, maxLocals := 1, code := jdk_39_method_1_code, exceptionTable := #[], attributes := #[] }
def k7m0 : Method := { name := "<init>", desc := "()V", sig := { parameters := [], returnType := none }, accessFlags := 4, code := some k7c0 }
/-- java/util/AbstractList -/
def k7 : Class := { plain "java/util/AbstractList" (some 4) with
  accessFlags := 1057
  interfaces := #[6]
  cf := some (fileOf pool7 8 #[.nestMembers #[93, 98, 208, 210, 82, 77]] #[{ accessFlags := 4, nameIndex := 5, descriptorIndex := 6, attributes := #[] }] 1057 2 #[133] #[{ accessFlags := 132, nameIndex := 11, descriptorIndex := 12, attributes := #[] }])
  fields := #[{ name := "modCount", type := .int, accessFlags := 132, slot := 0, constantValue := 0 }]
  methods := #[k7m0]
  instanceTypes := #[.int]
  staticTypes := #[]
  resolved := Array.replicate 218 none
  statics := none }

def pool8 : Array CpInfo := pool [(1, .class_ 2), (0, u "java/util/RandomAccess"), (0, .class_ 4), (0, u "java/lang/Object")] 2

/-- java/util/RandomAccess -/
def k8 : Class := { plain "java/util/RandomAccess" (some 0) with
  accessFlags := 1537
  interfaces := #[]
  cf := some (fileOf pool8 1 #[] #[] 1537 3 #[] #[])
  fields := #[]
  methods := #[]
  instanceTypes := #[]
  staticTypes := #[]
  resolved := Array.replicate 7 none
  statics := none }

def pool9 : Array CpInfo := pool [(1, .class_ 2), (0, u "java/lang/Cloneable"), (0, .class_ 4), (0, u "java/lang/Object")] 2

/-- java/lang/Cloneable -/
def k9 : Class := { plain "java/lang/Cloneable" (some 0) with
  accessFlags := 1537
  interfaces := #[]
  cf := some (fileOf pool9 1 #[] #[] 1537 3 #[] #[])
  fields := #[]
  methods := #[]
  instanceTypes := #[]
  staticTypes := #[]
  resolved := Array.replicate 7 none
  statics := none }

def pool10 : Array CpInfo := pool [(1, .class_ 2), (0, u "java/io/Serializable"), (0, .class_ 4), (0, u "java/lang/Object")] 2

/-- java/io/Serializable -/
def k10 : Class := { plain "java/io/Serializable" (some 0) with
  accessFlags := 1537
  interfaces := #[]
  cf := some (fileOf pool10 1 #[] #[] 1537 3 #[] #[])
  fields := #[]
  methods := #[]
  instanceTypes := #[]
  staticTypes := #[]
  resolved := Array.replicate 7 none
  statics := none }

def pool11 : Array CpInfo := pool [(1, .methodref 2 3), (0, .class_ 4), (0, .nameAndType 5 6), (0, u "java/util/AbstractList"), (0, u "<init>"), (0, u "()V"), (2, .fieldref 10 11), (0, .class_ 12), (0, .nameAndType 13 14), (0, u "java/util/ArrayList"), (0, u "elementData"), (0, u "[Ljava/lang/Object;"), (2, u "EMPTY_ELEMENTDATA"), (21, .fieldref 10 40), (0, .nameAndType 41 14), (0, u "DEFAULTCAPACITY_EMPTY_ELEMENTDATA"), (8, u "size"), (0, u "I"), (96, .class_ 149), (0, u "java/util/List"), (112, .class_ 263), (0, u "java/util/ArrayList$ListItr"), (3, .class_ 268), (0, u "java/util/ArrayList$Itr"), (7, .class_ 277), (0, u "java/util/ArrayList$SubList"), (12, .class_ 291), (0, u "java/util/ArrayList$ArrayListSpliterator"), (37, .class_ 330), (0, u "java/util/RandomAccess"), (0, .class_ 332), (0, u "java/lang/Cloneable"), (0, .class_ 334), (0, u "java/io/Serializable"), (0, u "serialVersionUID"), (0, u "J"), (3, u "DEFAULT_CAPACITY"), (159, .class_ 501), (0, u "java/util/ArrayList$SubList$2"), (0, .class_ 503), (0, u "java/util/ArrayList$SubList$1")] 5

def k11c0 : Code := { maxStack := 2, maxLocals := 1, code := jdk_38_method_2_code, exceptionTable := #[], attributes := #[] }
def k11m0 : Method := { name := "<init>", desc := "()V", sig := { parameters := [], returnType := none }, accessFlags := 1, code := some k11c0 }
/-- java/util/ArrayList -/
def k11 : Class := { plain "java/util/ArrayList" (some 7) with
  accessFlags := 33
  interfaces := #[6, 8, 9, 10]
  cf := some (fileOf pool11 10 #[.nestMembers #[290, 276, 500, 502, 262, 267]] #[{ accessFlags := 1, nameIndex := 5, descriptorIndex := 6, attributes := #[] }] 33 2 #[148, 329, 331, 333] #[{ accessFlags := 26, nameIndex := 335, descriptorIndex := 336, attributes := #[] }, { accessFlags := 26, nameIndex := 340, descriptorIndex := 51, attributes := #[] }, { accessFlags := 26, nameIndex := 17, descriptorIndex := 14, attributes := #[] }, { accessFlags := 26, nameIndex := 41, descriptorIndex := 14, attributes := #[] }, { accessFlags := 128, nameIndex := 13, descriptorIndex := 14, attributes := #[] }, { accessFlags := 2, nameIndex := 50, descriptorIndex := 51, attributes := #[] }])
  fields := #[{ name := "serialVersionUID", type := .long, accessFlags := 26, slot := 0, constantValue := 0 }, { name := "DEFAULT_CAPACITY", type := .int, accessFlags := 26, slot := 1, constantValue := 0 }, { name := "EMPTY_ELEMENTDATA", type := (.array (.object "java/lang/Object")), accessFlags := 26, slot := 2, constantValue := 0 }, { name := "DEFAULTCAPACITY_EMPTY_ELEMENTDATA", type := (.array (.object "java/lang/Object")), accessFlags := 26, slot := 3, constantValue := 0 }, { name := "elementData", type := (.array (.object "java/lang/Object")), accessFlags := 128, slot := 1, constantValue := 0 }, { name := "size", type := .int, accessFlags := 2, slot := 2, constantValue := 0 }]
  methods := #[k11m0]
  instanceTypes := #[.int, (.array (.object "java/lang/Object")), .int]
  staticTypes := #[.long, .int, (.array (.object "java/lang/Object")), (.array (.object "java/lang/Object"))]
  resolved := Array.replicate 509 none
  statics := some 0 }

def pool12 : Array CpInfo := pool [(1, .class_ 2), (0, u "com/example/craterworks/craterworks/SharesStation"), (0, .methodref 4 5), (0, .class_ 6), (0, .nameAndType 7 8), (0, u "java/lang/Object"), (0, u "<init>"), (0, u "()V"), (0, .class_ 10), (0, u "[[Z"), (0, .fieldref 1 12), (0, .nameAndType 13 10), (0, u "occupied"), (0, .fieldref 1 15), (0, .nameAndType 16 17), (0, u "uncovered"), (0, u "[Z"), (0, .fieldref 1 19), (0, .nameAndType 20 21), (0, u "icons"), (0, u "Ljava/util/List;"), (0, .methodref 23 24), (0, .class_ 25), (0, .nameAndType 26 27), (0, u "java/util/Arrays"), (0, u "fill"), (0, u "([ZZ)V"), (2, u "branches"), (0, u "()I"), (13, u "(I)Z"), (22, u "COLUMNS"), (0, u "I"), (2, u "CELLS"), (1, u "BRANCHES"), (1, u "BARRED"), (3, u "(Ljava/util/List;)V"), (7, u "take"), (0, u "(I)V"), (0, u "hasRoom"), (0, u "sendHome")] 24

def k12c0 : Code := { maxStack := 3, maxLocals := 6, code := prog_6_method_1_code, exceptionTable := #[], attributes := #[] }
def k12m0 : Method := { name := "<init>", desc := "(Ljava/util/List;)V", sig := { parameters := [(.object "java/util/List")], returnType := none }, accessFlags := 0, code := some k12c0 }
def k12c1 : Code := { maxStack := 2, maxLocals := 10, code := prog_6_method_2_code, exceptionTable := #[], attributes := #[] }
def k12m1 : Method := { name := "branches", desc := "()I", sig := { parameters := [], returnType := some .int }, accessFlags := 0, code := some k12c1 }
def k12c2 : Code := { maxStack := 5, maxLocals := 3, code := prog_6_method_10_code, exceptionTable := #[], attributes := #[] }
def k12m2 : Method := { name := "take", desc := "(I)V", sig := { parameters := [.int], returnType := none }, accessFlags := 0, code := some k12c2 }
def k12c3 : Code := { maxStack := 2, maxLocals := 3, code := prog_6_method_11_code, exceptionTable := #[], attributes := #[] }
def k12m3 : Method := { name := "hasRoom", desc := "(I)Z", sig := { parameters := [.int], returnType := some .boolean }, accessFlags := 0, code := some k12c3 }
def k12c4 : Code := { maxStack := 3, maxLocals := 3, code := prog_6_method_12_code, exceptionTable := #[], attributes := #[] }
def k12m4 : Method := { name := "sendHome", desc := "(I)V", sig := { parameters := [.int], returnType := none }, accessFlags := 0, code := some k12c4 }
/-- com/example/craterworks/craterworks/SharesStation -/
def k12 : Class := { plain "com/example/craterworks/craterworks/SharesStation" (some 0) with
  accessFlags := 48
  interfaces := #[]
  cf := some (fileOf pool12 1 #[] #[{ accessFlags := 0, nameIndex := 7, descriptorIndex := 80, attributes := #[] }, { accessFlags := 0, nameIndex := 30, descriptorIndex := 31, attributes := #[] }, { accessFlags := 0, nameIndex := 88, descriptorIndex := 89, attributes := #[] }, { accessFlags := 0, nameIndex := 90, descriptorIndex := 45, attributes := #[] }, { accessFlags := 0, nameIndex := 91, descriptorIndex := 89, attributes := #[] }] 48 4 #[] #[{ accessFlags := 24, nameIndex := 68, descriptorIndex := 69, attributes := #[] }, { accessFlags := 24, nameIndex := 72, descriptorIndex := 69, attributes := #[] }, { accessFlags := 24, nameIndex := 74, descriptorIndex := 69, attributes := #[] }, { accessFlags := 26, nameIndex := 76, descriptorIndex := 69, attributes := #[] }, { accessFlags := 18, nameIndex := 20, descriptorIndex := 21, attributes := #[] }, { accessFlags := 18, nameIndex := 13, descriptorIndex := 10, attributes := #[] }, { accessFlags := 18, nameIndex := 16, descriptorIndex := 17, attributes := #[] }])
  fields := #[{ name := "COLUMNS", type := .int, accessFlags := 24, slot := 0, constantValue := 0 }, { name := "CELLS", type := .int, accessFlags := 24, slot := 1, constantValue := 0 }, { name := "BRANCHES", type := .int, accessFlags := 24, slot := 2, constantValue := 0 }, { name := "BARRED", type := .int, accessFlags := 26, slot := 3, constantValue := 0 }, { name := "icons", type := (.object "java/util/List"), accessFlags := 18, slot := 0, constantValue := 0 }, { name := "occupied", type := (.array (.array .boolean)), accessFlags := 18, slot := 1, constantValue := 0 }, { name := "uncovered", type := (.array .boolean), accessFlags := 18, slot := 2, constantValue := 0 }]
  methods := #[k12m0, k12m1, k12m2, k12m3, k12m4]
  instanceTypes := #[(.object "java/util/List"), (.array (.array .boolean)), (.array .boolean)]
  staticTypes := #[.int, .int, .int, .int]
  resolved := Array.replicate 116 none
  statics := none }

def pool13 : Array CpInfo := pool [(2, .class_ 4), (1, u "java/lang/Object"), (0, u "<init>"), (0, u "()V"), (7, .class_ 16), (1, u "java/util/Arrays"), (57, .class_ 76), (1, u "java/util/Arrays$NaturalOrder"), (36, .class_ 115), (1, u "java/util/Arrays$LegacyMergeSort"), (1, u "Z"), (257, .class_ 376), (0, u "java/util/Arrays$ArrayList"), (68, u "$assertionsDisabled"), (269, u "MIN_ARRAY_SORT_GRAN"), (0, u "I"), (2, u "INSERTIONSORT_THRESHOLD"), (120, u "fill"), (11, u "([ZZ)V"), (122, .class_ 976), (0, u "java/util/Arrays$ArrayItr")] 52

def k13m0 : Method := { name := "<init>", desc := "()V", sig := { parameters := [], returnType := none }, accessFlags := 2, code := none }
def k13c1 : Code := { maxStack := 3, maxLocals := 4, code := jdk_65_method_111_code, exceptionTable := #[], attributes := #[] }
def k13m1 : Method := { name := "fill", desc := "([ZZ)V", sig := { parameters := [(.array .boolean), .boolean], returnType := none }, accessFlags := 9, code := some k13c1 }
/-- java/util/Arrays -/
def k13 : Class := { plain "java/util/Arrays" (some 0) with
  accessFlags := 49
  interfaces := #[]
  cf := some (fileOf pool13 14 #[.nestMembers #[975, 375, 113, 74]] #[{ accessFlags := 2, nameIndex := 5, descriptorIndex := 6, attributes := #[] }, { accessFlags := 9, nameIndex := 840, descriptorIndex := 852, attributes := #[] }] 49 2 #[] #[{ accessFlags := 26, nameIndex := 715, descriptorIndex := 716, attributes := #[] }, { accessFlags := 26, nameIndex := 719, descriptorIndex := 716, attributes := #[] }, { accessFlags := 4120, nameIndex := 445, descriptorIndex := 117, attributes := #[] }])
  fields := #[{ name := "MIN_ARRAY_SORT_GRAN", type := .int, accessFlags := 26, slot := 0, constantValue := 0 }, { name := "INSERTIONSORT_THRESHOLD", type := .int, accessFlags := 26, slot := 1, constantValue := 0 }, { name := "$assertionsDisabled", type := .boolean, accessFlags := 4120, slot := 2, constantValue := 0 }]
  methods := #[k13m0, k13m1]
  instanceTypes := #[]
  staticTypes := #[.int, .int, .boolean]
  resolved := Array.replicate 1029 none
  statics := none }

/-- the primitive boolean -/
def k14 : Class := { plain "boolean" none with kind := .primitive 'Z', accessFlags := 0x411 }
/-- [Z -/
def k15 : Class := { plain "[Z" (some 0) with kind := .array 14 .boolean, interfaces := #[9, 10], accessFlags := 1041 }

/-- the primitive byte -/
def k16 : Class := { plain "byte" none with kind := .primitive 'B', accessFlags := 0x411 }
/-- [B -/
def k17 : Class := { plain "[B" (some 0) with kind := .array 16 .byte, interfaces := #[9, 10], accessFlags := 1041 }

/-- the primitive int -/
def k18 : Class := { plain "int" none with kind := .primitive 'I', accessFlags := 0x411 }
/-- [I -/
def k19 : Class := { plain "[I" (some 0) with kind := .array 18 .int, interfaces := #[9, 10], accessFlags := 1041 }

/-- [Ljava/lang/Object; -/
def k20 : Class := { plain "[Ljava/lang/Object;" (some 0) with kind := .array 0 (.object "java/lang/Object"), interfaces := #[9, 10], accessFlags := 1041 }

/-- [[Z -/
def k21 : Class := { plain "[[Z" (some 0) with kind := .array 15 (.array .boolean), interfaces := #[9, 10], accessFlags := 1041 }

def heap : Heap := #[{ cls := 11, slots := #[.long 0, .int 0, .ref 1, .ref 2], vm := .statics 11 },
  { cls := 20, slots := #[], vm := .none },
  { cls := 20, slots := #[], vm := .none }]
def classes : Array Class := #[k0, k1, k2, k3, k4, k5, k6, k7, k8, k9, k10, k11, k12, k13, k14, k15, k16, k17, k18, k19, k20, k21]
def interned : List (Array UInt16 × Addr) := []
def slotsUsed : Nat := 4
def theMethod : MethodId := ⟨1, 2⟩
def args0 : Array Value := #[.int 5, .int 3, .int 4, .int 3]
def aboutOver (below : List Frame) : State where
  vm := { classes := classes, interned := interned.toArray }
  heap := heap
  slotsUsed := slotsUsed
  threads := #[{ frames := .invoking theMethod args0 :: below }]
def below0 : List Frame := [.native { method := ⟨0, 0⟩, args := #[] }]
def about1 : State := aboutOver below0
def p0 : Program := .bare "" "" ""
def e0 : Env := launch0.env 0 0 0
theorem w_frames : about1.frames = Frame.invoking theMethod args0 :: below0 := rfl
set_option maxRecDepth 65536 in
theorem w_args : argsFit about1.vm theMethod args0 = true := by decide +kernel
set_option maxRecDepth 65536 in
theorem w_heap : heapFits about1 = true := by decide +kernel
set_option maxRecDepth 65536 in
theorem w_runnable : about1.curStatus? = some .runnable := by decide +kernel
set_option maxRecDepth 65536 in
theorem w_alone : about1.alone = true := by decide +kernel
set_option maxRecDepth 65536 in
theorem w_named : about1.methodNamed? x = some theMethod := by decide +kernel
set_option maxRecDepth 65536 in
theorem w_hears : about1.hears theMethod below0 = true := by decide +kernel
set_option maxRecDepth 65536 in
theorem w_ripe : about1.ripe theMethod args0 below0 = true := by decide +kernel
theorem w_running : about1.status = .running := rfl
set_option maxRecDepth 65536 in
theorem w_room : about1.hasRoom e0.platform room_1 = true :=
  launch0.hasRoom_least _ room_1 (by decide +kernel) (by decide +kernel) (by decide +kernel) (by decide +kernel) (by decide +kernel) (by decide +kernel)
theorem allAtoms_all (ts : List Jvm.Cond) (a : Array Jvm.Value) (st : Jvm.State) : (allAtoms ts).before a st = ts.all (fun c => c.before a st) := by
  induction ts with
  | nil => rfl
  | cons c t ih =>
    show (Jvm.Cond.and c (allAtoms t)).before a st = _
    rw [Jvm.Cond.before_and, ih, List.all_cons]
def words1 : List Jvm.Cond := Jvm.Cond.code x code maxLocals ret :: tables_1
/-- a 'code' word, met by the world's own term for the bytes: nothing is compared byte by byte -/
theorem code_word {y : MethodName} {bytes : ByteArray} {mx : Nat} {rt : Option FieldType} {a : Array Value} {s : State} {m : MethodId} {meth : Method} {c : Code} (h1 : s.methodNamed? y = some m) (h2 : s.vm.method? m = some meth) (h3 : meth.code = some c) (h4 : c.code = bytes)
    (h5 : (c.maxLocals == mx && c.exceptionTable.isEmpty && decide (c.maxStack ≤ mostOperands) && decide (meth.sig.returnType = rt) && !meth.locks && decide (parseMethodDescriptor y.desc = some meth.sig)) = true) : (Jvm.Cond.code y bytes mx rt).before a s = true := by
  simp only [Bool.and_eq_true, beq_iff_eq, Bool.not_eq_true', decide_eq_true_eq] at h5
  obtain ⟨⟨⟨⟨⟨g1, g2⟩, g3⟩, g4⟩, g5⟩, g6⟩ := h5
  simp [Cond.before, Cond.holds, Cond.value, h1, h2, h3, h4, g1, g2, g3, g4, g5, g6]
def isCode : Jvm.Cond → Bool
  | .code _ _ _ _ => true
  | _ => false
theorem all_split {L : List Jvm.Cond} {P : Jvm.Cond → Bool} (h1 : L.all (fun c => isCode c || P c) = true) (h2 : ∀ c ∈ L.filter isCode, P c = true) : L.all P = true := by
  refine List.all_eq_true.mpr fun c hc => ?_
  have h := List.all_eq_true.mp h1 c hc
  rcases Bool.eq_false_or_eq_true (isCode c) with hi | hi
  · exact h2 c (List.mem_filter.mpr ⟨hc, hi⟩)
  · simpa [hi] using h
set_option maxRecDepth 65536 in
theorem w_c0 : (Jvm.Cond.code x code maxLocals ret).before args0 about1 = true := code_word (m := ⟨1, 2⟩) (meth := k1m2) (c := k1c2) (by decide +kernel) rfl rfl rfl (by decide +kernel)
set_option maxRecDepth 65536 in
theorem w_c1 : (Jvm.Cond.code ({ cls := "java/util/ArrayList", name := "<init>", desc := "()V" } : Jvm.MethodName) jdk_38_method_2_code (1 : Nat) (Option.none : Option Jvm.ClassFile.FieldType)).before args0 about1 = true := code_word (m := ⟨11, 0⟩) (meth := k11m0) (c := k11c0) (by decide +kernel) rfl rfl rfl (by decide +kernel)
set_option maxRecDepth 65536 in
theorem w_c2 : (Jvm.Cond.code ({ cls := "java/util/AbstractList", name := "<init>", desc := "()V" } : Jvm.MethodName) jdk_39_method_1_code (1 : Nat) (Option.none : Option Jvm.ClassFile.FieldType)).before args0 about1 = true := code_word (m := ⟨7, 0⟩) (meth := k7m0) (c := k7c0) (by decide +kernel) rfl rfl rfl (by decide +kernel)
set_option maxRecDepth 65536 in
theorem w_c3 : (Jvm.Cond.code ({ cls := "java/util/AbstractCollection", name := "<init>", desc := "()V" } : Jvm.MethodName) jdk_22_method_1_code (1 : Nat) (Option.none : Option Jvm.ClassFile.FieldType)).before args0 about1 = true := code_word (m := ⟨4, 0⟩) (meth := k4m0) (c := k4c0) (by decide +kernel) rfl rfl rfl (by decide +kernel)
set_option maxRecDepth 65536 in
theorem w_c4 : (Jvm.Cond.code ({ cls := "java/lang/Object", name := "<init>", desc := "()V" } : Jvm.MethodName) object_method_1_code (1 : Nat) (Option.none : Option Jvm.ClassFile.FieldType)).before args0 about1 = true := code_word (m := ⟨0, 0⟩) (meth := k0m0) (c := k0c0) (by decide +kernel) rfl rfl rfl (by decide +kernel)
set_option maxRecDepth 65536 in
theorem w_c5 : (Jvm.Cond.code ({ cls := "com/example/craterworks/craterworks/SharesStation", name := "<init>", desc := "(Ljava/util/List;)V" } : Jvm.MethodName) prog_6_method_1_code (6 : Nat) (Option.none : Option Jvm.ClassFile.FieldType)).before args0 about1 = true := code_word (m := ⟨12, 0⟩) (meth := k12m0) (c := k12c0) (by decide +kernel) rfl rfl rfl (by decide +kernel)
set_option maxRecDepth 65536 in
theorem w_c6 : (Jvm.Cond.code ({ cls := "java/util/Arrays", name := "fill", desc := "([ZZ)V" } : Jvm.MethodName) jdk_65_method_111_code (4 : Nat) (Option.none : Option Jvm.ClassFile.FieldType)).before args0 about1 = true := code_word (m := ⟨13, 1⟩) (meth := k13m1) (c := k13c1) (by decide +kernel) rfl rfl rfl (by decide +kernel)
set_option maxRecDepth 65536 in
theorem w_c7 : (Jvm.Cond.code ({ cls := "com/example/craterworks/craterworks/SharesStationBranchesPinLaw", name := "takeN", desc := "(Lcom/example/craterworks/craterworks/SharesStation;II)V" } : Jvm.MethodName) method_2_code (3 : Nat) (Option.none : Option Jvm.ClassFile.FieldType)).before args0 about1 = true := code_word (m := ⟨1, 1⟩) (meth := k1m1) (c := k1c1) (by decide +kernel) rfl rfl rfl (by decide +kernel)
set_option maxRecDepth 65536 in
theorem w_c8 : (Jvm.Cond.code ({ cls := "com/example/craterworks/craterworks/SharesStation", name := "take", desc := "(I)V" } : Jvm.MethodName) prog_6_method_10_code (3 : Nat) (Option.none : Option Jvm.ClassFile.FieldType)).before args0 about1 = true := code_word (m := ⟨12, 2⟩) (meth := k12m2) (c := k12c2) (by decide +kernel) rfl rfl rfl (by decide +kernel)
set_option maxRecDepth 65536 in
theorem w_c9 : (Jvm.Cond.code ({ cls := "com/example/craterworks/craterworks/SharesStation", name := "branches", desc := "()I" } : Jvm.MethodName) prog_6_method_2_code (10 : Nat) (Option.some Jvm.ClassFile.FieldType.int)).before args0 about1 = true := code_word (m := ⟨12, 1⟩) (meth := k12m1) (c := k12c1) (by decide +kernel) rfl rfl rfl (by decide +kernel)
set_option maxRecDepth 65536 in
theorem w_c10 : (Jvm.Cond.code ({ cls := "com/example/craterworks/craterworks/SharesStation", name := "hasRoom", desc := "(I)Z" } : Jvm.MethodName) prog_6_method_11_code (3 : Nat) (Option.some Jvm.ClassFile.FieldType.boolean)).before args0 about1 = true := code_word (m := ⟨12, 3⟩) (meth := k12m3) (c := k12c3) (by decide +kernel) rfl rfl rfl (by decide +kernel)
set_option maxRecDepth 65536 in
theorem w_c11 : (Jvm.Cond.code ({ cls := "com/example/craterworks/craterworks/SharesStation", name := "sendHome", desc := "(I)V" } : Jvm.MethodName) prog_6_method_12_code (3 : Nat) (Option.none : Option Jvm.ClassFile.FieldType)).before args0 about1 = true := code_word (m := ⟨12, 4⟩) (meth := k12m4) (c := k12c4) (by decide +kernel) rfl rfl rfl (by decide +kernel)
def codes1 : List Jvm.Cond := [Jvm.Cond.code x code maxLocals ret, Jvm.Cond.code ({ cls := "java/util/ArrayList", name := "<init>", desc := "()V" } : Jvm.MethodName) jdk_38_method_2_code (1 : Nat) (Option.none : Option Jvm.ClassFile.FieldType), Jvm.Cond.code ({ cls := "java/util/AbstractList", name := "<init>", desc := "()V" } : Jvm.MethodName) jdk_39_method_1_code (1 : Nat) (Option.none : Option Jvm.ClassFile.FieldType), Jvm.Cond.code ({ cls := "java/util/AbstractCollection", name := "<init>", desc := "()V" } : Jvm.MethodName) jdk_22_method_1_code (1 : Nat) (Option.none : Option Jvm.ClassFile.FieldType), Jvm.Cond.code ({ cls := "java/lang/Object", name := "<init>", desc := "()V" } : Jvm.MethodName) object_method_1_code (1 : Nat) (Option.none : Option Jvm.ClassFile.FieldType), Jvm.Cond.code ({ cls := "com/example/craterworks/craterworks/SharesStation", name := "<init>", desc := "(Ljava/util/List;)V" } : Jvm.MethodName) prog_6_method_1_code (6 : Nat) (Option.none : Option Jvm.ClassFile.FieldType), Jvm.Cond.code ({ cls := "java/util/Arrays", name := "fill", desc := "([ZZ)V" } : Jvm.MethodName) jdk_65_method_111_code (4 : Nat) (Option.none : Option Jvm.ClassFile.FieldType), Jvm.Cond.code ({ cls := "com/example/craterworks/craterworks/SharesStationBranchesPinLaw", name := "takeN", desc := "(Lcom/example/craterworks/craterworks/SharesStation;II)V" } : Jvm.MethodName) method_2_code (3 : Nat) (Option.none : Option Jvm.ClassFile.FieldType), Jvm.Cond.code ({ cls := "com/example/craterworks/craterworks/SharesStation", name := "take", desc := "(I)V" } : Jvm.MethodName) prog_6_method_10_code (3 : Nat) (Option.none : Option Jvm.ClassFile.FieldType), Jvm.Cond.code ({ cls := "com/example/craterworks/craterworks/SharesStation", name := "branches", desc := "()I" } : Jvm.MethodName) prog_6_method_2_code (10 : Nat) (Option.some Jvm.ClassFile.FieldType.int), Jvm.Cond.code ({ cls := "com/example/craterworks/craterworks/SharesStation", name := "hasRoom", desc := "(I)Z" } : Jvm.MethodName) prog_6_method_11_code (3 : Nat) (Option.some Jvm.ClassFile.FieldType.boolean), Jvm.Cond.code ({ cls := "com/example/craterworks/craterworks/SharesStation", name := "sendHome", desc := "(I)V" } : Jvm.MethodName) prog_6_method_12_code (3 : Nat) (Option.none : Option Jvm.ClassFile.FieldType)]
set_option maxRecDepth 65536 in
theorem codes_eq : words1.filter isCode = codes1 := rfl
theorem w_codes : ∀ c ∈ words1.filter isCode, c.before args0 about1 = true := by
  rw [codes_eq]
  intro c hc
  simp only [codes1, List.mem_cons, List.not_mem_nil, or_false] at hc
  rcases hc with rfl | rfl | rfl | rfl | rfl | rfl | rfl | rfl | rfl | rfl | rfl | rfl
  · exact w_c0
  · exact w_c1
  · exact w_c2
  · exact w_c3
  · exact w_c4
  · exact w_c5
  · exact w_c6
  · exact w_c7
  · exact w_c8
  · exact w_c9
  · exact w_c10
  · exact w_c11
set_option maxRecDepth 65536 in
theorem w_t1 : (words1.take 24).all (fun c => isCode c || c.before args0 about1) = true := by decide +kernel
set_option maxRecDepth 65536 in
theorem w_t2 : ((words1.drop 24).take 24).all (fun c => isCode c || c.before args0 about1) = true := by decide +kernel
set_option maxRecDepth 65536 in
theorem w_t3 : (((words1.drop 24).drop 24).take 24).all (fun c => isCode c || c.before args0 about1) = true := by decide +kernel
set_option maxRecDepth 65536 in
theorem w_t4 : (((words1.drop 24).drop 24).drop 24).all (fun c => isCode c || c.before args0 about1) = true := by decide +kernel
theorem w_tables : (allAtoms (Jvm.Cond.code x code maxLocals ret :: tables_1)).before args0 about1 = true := by
  rw [allAtoms_all]
  show words1.all (fun c => c.before args0 about1) = true
  refine all_split ?_ w_codes
  rw [← List.take_append_drop 24 words1, List.all_append, w_t1, ← List.take_append_drop 24 (words1.drop 24), List.all_append, w_t2, ← List.take_append_drop 24 ((words1.drop 24).drop 24), List.all_append, w_t3, w_t4]
  rfl
set_option maxRecDepth 65536 in
theorem w_rest : rest_1_c.before args0 about1 = true := by decide +kernel
set_option maxRecDepth 65536 in
theorem w_case : (Jvm.Cond.and given_1 narrow_1).before args0 about1 = true := by decide +kernel
theorem w_applies : (headSpec (Jvm.Cond.code x code maxLocals ret :: tables_1) room_1).applies x e0.platform about1 = true :=
  (Spec.applies_iff w_frames).mpr ⟨w_running, w_runnable, w_alone, w_named, w_hears, w_ripe, w_room, w_tables⟩
theorem atStart : AtStart classFile x code maxLocals ret World_1 tables_1 room_1 Calls_1 rest_1 Pre_1 launch0 p0 e0 about1 theMethod args0 below0 :=
  ⟨lists_1, trivial, launch0.admits_env _ _ _, launch0.least_env, fairChoices_fair.cas, fairChoices_fair.clock, w_frames, w_args, w_heap, w_applies, trivial, w_rest, w_case⟩
end start1
theorem witness_1 : WitnessClaimed_1 := ⟨start1.p0, start1.e0, start1.about1, start1.theMethod, start1.args0, start1.below0, start1.atStart⟩
end Jvm.Pilot.@@N@@
